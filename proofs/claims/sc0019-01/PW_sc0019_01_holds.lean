import PyProof.Rows.All
import Wide.All
import OpenK.AllK
import Wide.FinOn
import PySem.Challenge.RW_sc0019_01
set_option Elab.async false
set_option maxRecDepth 100000
set_option linter.unusedVariables false
namespace Mine
section
open PySem PySem.Sre
/-! the machine of the patterns -/
theorem runFor_zero (m : M) : m.runFor 0 = m := rfl
theorem runFor_succ {m : M} (k : Nat) (h : m.outcome = none) : m.runFor (k + 1) = (m.step).runFor k := by
  show (if m.outcome.isSome then m else _) = _
  rw [h]; rfl
theorem runFor_done {m : M} (h : m.outcome.isSome = true) : ∀ k, m.runFor k = m
  | 0 => rfl
  | k + 1 => by show (if m.outcome.isSome then m else _) = _; rw [if_pos h]
theorem runFor_add (m : M) : ∀ a b, m.runFor (a + b) = (m.runFor a).runFor b := by
  intro a
  induction a generalizing m with
  | zero => intro b; rw [Nat.zero_add]; rfl
  | succ a ih =>
    intro b
    cases h : m.outcome with
    | none => rw [Nat.add_right_comm, runFor_succ _ h, runFor_succ _ h, ih]
    | some o => have h' : m.outcome.isSome = true := by rw [h]; rfl
                rw [runFor_done h', runFor_done h' (a + 1), runFor_done h']

/-- `m` comes to `m'` within `k` steps -/
def Go (k : Nat) (m m' : M) : Prop := m.runFor k = m'
theorem Go.refl (m : M) : Go 0 m m := rfl
theorem Go.step {m m' : M} {k : Nat} (ho : m.outcome = none) (h : Go k m.step m') : Go (k + 1) m m' := (runFor_succ k ho).trans h
theorem Go.trans {m m' m'' : M} {a b : Nat} (h : Go a m m') (h' : Go b m' m'') : Go (a + b) m m'' := by
  unfold Go at *; rw [runFor_add, h, h']

/-- how many signs from place p on, n at the most, that f takes -/
def spanAt (t : Array Nat) (f : Nat → Bool) : (n p : Nat) → Nat
  | 0, _ => 0
  | n + 1, p => if f (t.getD p 0) then spanAt t f n (p + 1) + 1 else 0

theorem spanAt_le (t : Array Nat) (f : Nat → Bool) : ∀ n p, spanAt t f n p ≤ n
  | 0, _ => Nat.le_refl _
  | n + 1, p => by
    unfold spanAt
    have := spanAt_le t f n (p + 1)
    split <;> omega

theorem run_is {code t : Array Nat} {i : Nat} {f : Nat → Bool} (hf : ∀ c seen, ∃ seen', accepts code i c seen = .ok (f c, seen')) :
    ∀ n p found seen, ∃ seen', Sre.run code t i n p found seen = .ok (found + spanAt t f n p, seen') := by
  intro n
  induction n with
  | zero => intro p found seen; exact ⟨seen, rfl⟩
  | succ n ih =>
    intro p found seen
    obtain ⟨s', h⟩ := hf (t.getD p 0) seen
    unfold Sre.run spanAt
    rw [h]
    show ∃ seen', (if f (t.getD p 0) = true then _ else _) = _
    cases hc : f (t.getD p 0) with
    | true =>
      obtain ⟨s2, h2⟩ := ih (p + 1) (found + 1) s'
      refine ⟨s2, ?_⟩
      rw [if_pos rfl, if_pos rfl, h2, Nat.add_comm (spanAt t f n (p + 1)) 1, ← Nat.add_assoc]
    | false => exact ⟨s', by simp; rfl⟩

def code1 : Array Nat := #[14, 4, 0, 1, 4294967295, 17, 0, 24, 9, 1, 4294967295, 13, 4, 8, 12, 0, 1, 17, 1, 1]
def code2 : Array Nat := #[14, 4, 0, 0, 4294967295, 6, 0, 24, 9, 0, 4294967295, 13, 4, 8, 12, 0, 1, 6, 5, 1]
def code3 : Array Nat := #[14, 4, 0, 0, 4294967295, 6, 0, 17, 0, 24, 11, 0, 4294967295, 13, 6, 16, 32, 16, 9, 0, 1, 17, 1, 1]

def isBlank (c : Nat) : Bool := c == 32 || c == 9

theorem cat12 (c : Nat) : category 12 c = .ok (Unicode.isSpace c) := by
  unfold category
  simp [Except.map]

theorem acc1 (c : Nat) (seen : Seen) : ∃ seen', accepts code1 11 c seen = .ok (Unicode.isSpace c, seen') := by
  show ∃ seen', inSet code1 c 20 13 true seen = _
  unfold inSet
  show ∃ seen', (do if ← category 12 c then _ else _ : Except String (Bool × Seen)) = _
  rw [cat12]
  cases Unicode.isSpace c with
  | true => exact ⟨_, rfl⟩
  | false => exact ⟨_, rfl⟩
theorem acc2 (c : Nat) (seen : Seen) : ∃ seen', accepts code2 11 c seen = .ok (Unicode.isSpace c, seen') := by
  show ∃ seen', inSet code2 c 20 13 true seen = _
  unfold inSet
  show ∃ seen', (do if ← category 12 c then _ else _ : Except String (Bool × Seen)) = _
  rw [cat12]
  cases Unicode.isSpace c with
  | true => exact ⟨_, rfl⟩
  | false => exact ⟨_, rfl⟩
theorem acc3 (c : Nat) (seen : Seen) : ∃ seen', accepts code3 13 c seen = .ok (isBlank c, seen') := by
  show ∃ seen', inSet code3 c 24 15 true seen = _
  unfold inSet
  show ∃ seen', (if (c == 32) = true then _ else _ : Except String (Bool × Seen)) = _
  unfold isBlank
  cases h : (c == 32) with
  | true => exact ⟨_, rfl⟩
  | false =>
    rw [if_neg (by simp)]
    unfold inSet
    show ∃ seen', (if (c == 9) = true then _ else _ : Except String (Bool × Seen)) = _
    cases h : (c == 9) with
    | true => exact ⟨_, rfl⟩
    | false => exact ⟨_, rfl⟩


/-! ^\s*$ at a text's begin -/
def S2 (t : Array Nat) (pc pos handed : Nat) (frames : List Sre.Frame) (wt : Nat) (ans : Option Bool) (seen : Seen) (o : Option Sre.Outcome) : M :=
  { code := code2, text := t, lim := t.size, start := 0, pc, pos, handed, marks := #[], frames, weight := wt, answer := ans, seen, outcome := o }
def fr2 (n : Nat) (c : Int) : Sre.Frame := { wait := .giveBack, pc := 7, pos := n, outermost := true, count := c, kept := {} }

theorem s2_start (t : Array Nat) : forMatch code2 t 0 0 t.size false false = S2 t 5 0 0 [] 0 none (({} : Seen).add 14) none := rfl
theorem s2_a (t : Array Nat) (seen : Seen) : ∃ seen', (S2 t 5 0 0 [] 0 none seen none).step = S2 t 7 0 0 [] 0 none seen' none := ⟨_, rfl⟩
def n2 (t : Array Nat) : Nat := spanAt t Unicode.isSpace (min 4294967295 t.size) 0
theorem s2_b (t : Array Nat) (seen : Seen) : ∃ seen', (S2 t 7 0 0 [] 0 none seen none).step = S2 t 17 (n2 t) (n2 t) [fr2 (n2 t) (n2 t)] 1 none seen' none := by
  obtain ⟨s', h⟩ := run_is (t := t) acc2 (min 4294967295 t.size) 0 0 ((seen.add 24).add 13)
  refine ⟨s', ?_⟩
  show M.exec (S2 t 7 0 0 [] 0 none seen none) = _
  unfold M.exec
  show (if ((0 : Nat) : Int) > ((t.size : Int) - (0 : Nat)) then _ else (match Sre.run code2 t 11 (min 4294967295 ((t.size : Int) - (0 : Nat)).toNat) 0 0 ((seen.add 24).add 13) with | .error why => _ | .ok (n, seen) => _ : M)) = _
  rw [if_neg (by omega)]
  have e : ((t.size : Int) - (0 : Nat)).toNat = t.size := by omega
  rw [e, h, Nat.zero_add]
  show (if n2 t < 0 then _ else _ : M) = _
  rw [if_neg (Nat.not_lt_zero _)]
  have hz : S2 t 17 (n2 t) (n2 t) [fr2 (n2 t) (n2 t)] 1 none s' none = S2 t 17 (0 + n2 t) (0 + n2 t) [fr2 (0 + n2 t) (n2 t)] 1 none s' none := by rw [Nat.zero_add]
  rw [hz]
  rfl
theorem s2_c (t : Array Nat) (p h : Nat) (f : Sre.Frame) (seen : Seen) : ∃ seen', (S2 t 17 p h [f] 1 none seen none).step =
    if (p == t.size || (p + 1 == t.size && t.getD p 0 == 10)) = true then S2 t 19 p h [f] 1 none seen' none else S2 t 17 p h [f] 1 (some false) seen' none := by
  refine ⟨(seen.add 6).add 48, ?_⟩
  show (if (p == t.size || (p + 1 == t.size && t.getD p 0 == 10)) = true then _ else _ : M) = _
  split <;> rfl
theorem s2_d (t : Array Nat) (p h : Nat) (f : Sre.Frame) (seen : Seen) : ∃ seen', (S2 t 19 p h [f] 1 none seen none).step = S2 t 19 p p [f] 1 (some true) seen' none := ⟨_, rfl⟩
theorem s2_e (t : Array Nat) (p n : Nat) (c : Int) (seen : Seen) : (S2 t 19 p p [fr2 n c] 1 (some true) seen none).step = S2 t 7 n p [] 0 (some true) seen none := rfl
theorem s2_f (t : Array Nat) (p n : Nat) (b : Bool) (seen : Seen) : (S2 t 7 n p [] 0 (some b) seen none).step = S2 t 7 n p [] 0 (some b) seen (some (if b then .matched else .failed)) := rfl
theorem s2_g (t : Array Nat) (p h n : Nat) (c : Int) (seen : Seen) : (S2 t 17 p h [fr2 n c] 1 (some false) seen none).step =
    if c - 1 < ((0 : Nat) : Int) then S2 t 7 n h [] 0 (some false) seen none else S2 t 17 (n - 1) (n - 1) [fr2 (n - 1) (c - 1)] 1 none seen none := by
  show (if c - 1 < ((0 : Nat) : Int) then _ else _ : M) = _
  split <;> rfl

theorem go2_yes (t : Array Nat) (p h : Nat) (c : Int) (seen : Seen) (hp : (p == t.size || (p + 1 == t.size && t.getD p 0 == 10)) = true) :
    ∃ seen', Go 4 (S2 t 17 p h [fr2 p c] 1 none seen none) (S2 t 7 p p [] 0 (some true) seen' (some .matched)) := by
  obtain ⟨s1, h1⟩ := s2_c t p h (fr2 p c) seen
  rw [if_pos hp] at h1
  obtain ⟨s2, h2⟩ := s2_d t p h (fr2 p c) s1
  refine ⟨s2, ?_⟩
  refine Go.step rfl ?_
  rw [h1]
  refine Go.step rfl ?_
  rw [h2]
  refine Go.step rfl ?_
  rw [s2_e]
  refine Go.step rfl ?_
  rw [s2_f]
  rfl
theorem go2_no (t : Array Nat) (n : Nat) : ∀ (p h : Nat) (seen : Seen), p ≤ n → n < t.size → (n + 1 = t.size → t.getD n 0 ≠ 10) →
    ∃ seen' h' p', Go (2 * p + 3) (S2 t 17 p h [fr2 p p] 1 none seen none) (S2 t 7 p' h' [] 0 (some false) seen' (some .failed)) := by
  intro p
  induction p with
  | zero =>
    intro h seen hp hn hc
    have hno : ¬ (0 == t.size || (0 + 1 == t.size && t.getD 0 0 == 10)) = true := by
      simp only [Bool.or_eq_true, Bool.and_eq_true, beq_iff_eq]
      rintro (h | ⟨h1, h2⟩)
      · omega
      · have : n = 0 := by omega
        subst this
        exact hc h1 h2
    obtain ⟨s1, h1⟩ := s2_c t 0 h (fr2 0 0) seen
    rw [if_neg hno] at h1
    refine ⟨s1, h, 0, ?_⟩
    refine Go.step rfl ?_
    show Go _ (M.step (S2 t 17 0 h [fr2 0 0] 1 none seen none)) _
    rw [h1]
    refine Go.step rfl ?_
    rw [s2_g, if_pos (by omega)]
    refine Go.step rfl ?_
    rw [s2_f]
    rfl
  | succ p ih =>
    intro h seen hp hn hc
    have hno : ¬ (p + 1 == t.size || (p + 1 + 1 == t.size && t.getD (p + 1) 0 == 10)) = true := by
      simp only [Bool.or_eq_true, Bool.and_eq_true, beq_iff_eq]
      rintro (h | ⟨h1, h2⟩)
      · omega
      · have : n = p + 1 := by omega
        subst this
        exact hc h1 h2
    obtain ⟨s1, h1⟩ := s2_c t (p + 1) h (fr2 (p + 1) (p + 1 : Nat)) seen
    rw [if_neg hno] at h1
    obtain ⟨s2, h', p', hg⟩ := ih p s1 (by omega) hn hc
    refine ⟨s2, h', p', ?_⟩
    have e : 2 * (p + 1) + 3 = (2 * p + 3) + 1 + 1 := by omega
    rw [e]
    refine Go.step rfl ?_
    rw [h1]
    refine Go.step rfl ?_
    rw [s2_g, if_neg (by omega)]
    have e2 : ((p + 1 : Nat) : Int) - 1 = (p : Nat) := by omega
    rw [e2, Nat.add_sub_cancel]
    exact hg

theorem spanAt_add (t : Array Nat) (f : Nat → Bool) : ∀ n p, (∀ i, i < spanAt t f n p → f (t.getD (p + i) 0) = true) ∧ (spanAt t f n p < n → f (t.getD (p + spanAt t f n p) 0) = false) := by
  intro n
  induction n with
  | zero => intro p; exact ⟨fun i hi => absurd hi (Nat.not_lt_zero _), fun h => absurd h (Nat.not_lt_zero _)⟩
  | succ n ih =>
    intro p
    unfold spanAt
    cases h : f (t.getD p 0) with
    | true =>
      rw [if_pos rfl]
      obtain ⟨a, b⟩ := ih (p + 1)
      refine ⟨fun i hi => ?_, fun hl => ?_⟩
      · cases i with
        | zero => exact h
        | succ i => have := a i (by omega); rw [show p + (i + 1) = p + 1 + i by omega]; exact this
      · have := b (by omega)
        rw [show p + (spanAt t f n (p + 1) + 1) = p + 1 + spanAt t f n (p + 1) by omega]; exact this
    | false =>
      rw [if_neg (by simp)]
      exact ⟨fun i hi => absurd hi (Nat.not_lt_zero _), fun _ => by simpa using h⟩

/-- white: no sign that is not white -/
def white (x : Str) : Bool := x.cps.all Unicode.isSpace

theorem space10 : Unicode.isSpace 10 = true := by decide +kernel
theorem match2 (t : Array Nat) (hsz : t.size ≤ 16777216) : ∃ k m', k ≤ 2 * t.size + 9 ∧ Go k (forMatch code2 t 0 0 t.size false false) m' ∧
    m'.outcome = some (if t.all Unicode.isSpace = true then .matched else .failed) := by
  rw [s2_start]
  obtain ⟨s1, h1⟩ := s2_a t (({} : Seen).add 14)
  obtain ⟨s2, h2⟩ := s2_b t s1
  have hmin : min 4294967295 t.size = t.size := by omega
  have hn : n2 t = spanAt t Unicode.isSpace t.size 0 := by unfold n2; rw [hmin]
  have hle := spanAt_le t Unicode.isSpace t.size 0
  obtain ⟨ha, hb⟩ := spanAt_add t Unicode.isSpace t.size 0
  rw [← hn] at hle ha hb
  have start : ∀ k m', Go k (S2 t 17 (n2 t) (n2 t) [fr2 (n2 t) (n2 t)] 1 none s2 none) m' → Go (k + 1 + 1) (S2 t 5 0 0 [] 0 none (({} : Seen).add 14) none) m' := fun k m' g => by
    refine Go.step rfl ?_
    rw [h1]
    refine Go.step rfl ?_
    rw [h2]
    exact g
  by_cases he : n2 t = t.size
  · obtain ⟨s3, h3⟩ := go2_yes t (n2 t) (n2 t) (n2 t) s2 (by rw [he]; simp)
    refine ⟨_, _, ?_, start _ _ h3, ?_⟩
    · omega
    · have : t.all Unicode.isSpace = true := by
        rw [Array.all_eq_true]
        intro i hi
        have := ha i (by omega)
        simpa [Array.getD, hi] using this
      rw [this]; rfl
  · have hlt : n2 t < t.size := by omega
    have hf := hb hlt
    rw [Nat.zero_add] at hf
    obtain ⟨s3, h', p', h3⟩ := go2_no t (n2 t) (n2 t) (n2 t) s2 (Nat.le_refl _) hlt (fun _ q => by rw [q, space10] at hf; cases hf)
    refine ⟨_, _, ?_, start _ _ h3, ?_⟩
    · omega
    · have : ¬ t.all Unicode.isSpace = true := by
        rw [Array.all_eq_true]
        intro h
        have := h (n2 t) hlt
        simp [Array.getD, hlt] at hf
        rw [hf] at this; cases this
      rw [if_neg this]; rfl

/-! ^([ \t]*) at a text's begin -/
def S3 (t : Array Nat) (pc pos handed : Nat) (marks : Array (Option Nat)) (lm li : Int) (frames : List Sre.Frame) (wt : Nat) (ans : Option Bool) (seen : Seen) (o : Option Sre.Outcome) : M :=
  { code := code3, text := t, lim := t.size, start := 0, pc, pos, handed, marks, lastmark := lm, lastindex := li, frames, weight := wt, answer := ans, seen, outcome := o }
def fr3 (n : Nat) (c : Int) : Sre.Frame := { wait := .giveBack, pc := 9, pos := n, outermost := true, count := c, kept := { lastmark := 0 } }
def n3 (t : Array Nat) : Nat := spanAt t isBlank (min 4294967295 t.size) 0
theorem s3_start (t : Array Nat) : forMatch code3 t 1 0 t.size false false = S3 t 5 0 0 #[none, none] (-1) (-1) [] 0 none (({} : Seen).add 14) none := rfl
theorem s3_a (t : Array Nat) (seen : Seen) : ∃ seen', (S3 t 5 0 0 #[none, none] (-1) (-1) [] 0 none seen none).step = S3 t 7 0 0 #[none, none] (-1) (-1) [] 0 none seen' none := ⟨_, rfl⟩
theorem s3_b (t : Array Nat) (seen : Seen) : ∃ seen', (S3 t 7 0 0 #[none, none] (-1) (-1) [] 0 none seen none).step = S3 t 9 0 0 #[some 0, none] 0 (-1) [] 0 none seen' none := ⟨_, rfl⟩
theorem s3_c (t : Array Nat) (seen : Seen) : ∃ seen', (S3 t 9 0 0 #[some 0, none] 0 (-1) [] 0 none seen none).step = S3 t 21 (n3 t) (n3 t) #[some 0, none] 0 (-1) [fr3 (n3 t) (n3 t)] 1 none seen' none := by
  obtain ⟨s', h⟩ := run_is (t := t) acc3 (min 4294967295 t.size) 0 0 ((seen.add 24).add 13)
  refine ⟨s', ?_⟩
  show M.exec (S3 t 9 0 0 #[some 0, none] 0 (-1) [] 0 none seen none) = _
  unfold M.exec
  show (if ((0 : Nat) : Int) > ((t.size : Int) - (0 : Nat)) then _ else (match Sre.run code3 t 13 (min 4294967295 ((t.size : Int) - (0 : Nat)).toNat) 0 0 ((seen.add 24).add 13) with | .error why => _ | .ok (n, seen) => _ : M)) = _
  rw [if_neg (by omega)]
  have e : ((t.size : Int) - (0 : Nat)).toNat = t.size := by omega
  rw [e, h, Nat.zero_add]
  show (if n3 t < 0 then _ else _ : M) = _
  rw [if_neg (Nat.not_lt_zero _)]
  have hz : S3 t 21 (n3 t) (n3 t) #[some 0, none] 0 (-1) [fr3 (n3 t) (n3 t)] 1 none s' none = S3 t 21 (0 + n3 t) (0 + n3 t) #[some 0, none] 0 (-1) [fr3 (0 + n3 t) (n3 t)] 1 none s' none := by rw [Nat.zero_add]
  rw [hz]
  rfl
theorem s3_d (t : Array Nat) (p h : Nat) (f : Sre.Frame) (seen : Seen) : ∃ seen', (S3 t 21 p h #[some 0, none] 0 (-1) [f] 1 none seen none).step = S3 t 23 p h #[some 0, some p] 1 1 [f] 1 none seen' none := by
  refine ⟨seen.add 17, ?_⟩
  show M.mark _ 1 = _
  unfold M.mark
  show ({ (S3 t 21 p h #[some 0, none] 0 (-1) [f] 1 none (seen.add 17) none) with marks := (if ((1 : Nat) : Int) ≤ (0 : Int) + 1 then #[some 0, none] else _ : Array (Option Nat)).setIfInBounds 1 (some p), lastmark := max 0 ((1 : Nat) : Int), lastindex := 1, pc := 23 } : M) = _
  rw [if_pos (by decide)]
  rfl
theorem s3_e (t : Array Nat) (p h : Nat) (f : Sre.Frame) (seen : Seen) : ∃ seen', (S3 t 23 p h #[some 0, some p] 1 1 [f] 1 none seen none).step = S3 t 23 p p #[some 0, some p] 1 1 [f] 1 (some true) seen' none := ⟨_, rfl⟩
theorem s3_f (t : Array Nat) (p n : Nat) (c : Int) (seen : Seen) : (S3 t 23 p p #[some 0, some p] 1 1 [fr3 n c] 1 (some true) seen none).step = S3 t 9 n p #[some 0, some p] 1 1 [] 0 (some true) seen none := rfl
theorem s3_g (t : Array Nat) (p n : Nat) (seen : Seen) : (S3 t 9 n p #[some 0, some p] 1 1 [] 0 (some true) seen none).step = S3 t 9 n p #[some 0, some p] 1 1 [] 0 (some true) seen (some .matched) := rfl

theorem match3 (t : Array Nat) (hsz : t.size ≤ 16777216) : ∃ k m' n, k ≤ 7 ∧ Go k (forMatch code3 t 1 0 t.size false false) m' ∧ m'.outcome = some .matched ∧
    n = spanAt t isBlank t.size 0 ∧ m'.start = 0 ∧ m'.handed = n ∧ m'.marks = #[some 0, some n] ∧ m'.lastmark = 1 ∧ m'.lastindex = 1 := by
  rw [s3_start]
  obtain ⟨s1, h1⟩ := s3_a t (({} : Seen).add 14)
  obtain ⟨s2, h2⟩ := s3_b t s1
  obtain ⟨s3, h3⟩ := s3_c t s2
  obtain ⟨s4, h4⟩ := s3_d t (n3 t) (n3 t) (fr3 (n3 t) (n3 t)) s3
  obtain ⟨s5, h5⟩ := s3_e t (n3 t) (n3 t) (fr3 (n3 t) (n3 t)) s4
  have hmin : min 4294967295 t.size = t.size := by omega
  refine ⟨7, S3 t 9 (n3 t) (n3 t) #[some 0, some (n3 t)] 1 1 [] 0 (some true) s5 (some .matched), n3 t, by omega, ?_, rfl, by unfold n3; rw [hmin], rfl, rfl, rfl, rfl, rfl⟩
  refine Go.step rfl ?_
  rw [h1]
  refine Go.step rfl ?_
  rw [h2]
  refine Go.step rfl ?_
  rw [h3]
  refine Go.step rfl ?_
  rw [h4]
  refine Go.step rfl ?_
  rw [h5]
  refine Go.step rfl ?_
  rw [s3_f]
  refine Go.step rfl ?_
  rw [s3_g]
  rfl

/-! (\s+) sought from a place on -/
def S1 (t : Array Nat) (ls st pc pos handed : Nat) (out : Bool) (marks : Array (Option Nat)) (lm li : Int) (frames : List Sre.Frame) (wt : Nat) (ans : Option Bool) (seen : Seen) (o : Option Sre.Outcome) : M :=
  { code := code1, text := t, lim := t.size, start := st, lastStart := ls, pc, pos, handed, outermost := out, marks, lastmark := lm, lastindex := li, frames, weight := wt, answer := ans, seen, outcome := o }
def fs1 (p : Nat) (out : Bool) : Sre.Frame := { wait := .nextStart, pc := 5, pos := p, outermost := out }
def fr1 (n : Nat) (out : Bool) (c : Int) : Sre.Frame := { wait := .giveBack, pc := 7, pos := n, outermost := out, count := c, kept := { lastmark := 0 } }
theorem s1_none (t : Array Nat) : ∃ seen, Go 1 (forSearch code1 t 1 t.size t.size false) (S1 t 0 t.size 5 t.size t.size true #[none, none] (-1) (-1) [] 0 (some false) seen (some .failed)) := by
  have : forSearch code1 t 1 t.size t.size false = S1 t 0 t.size 5 t.size t.size true #[none, none] (-1) (-1) [] 0 (some false) (({} : Seen).add 14) none := by
    unfold forSearch
    show (if (decide (t.size > t.size) || decide (t.size - t.size < 1)) = true then _ else _ : M) = _
    rw [if_pos (by simp)]
    rfl
  refine ⟨({} : Seen).add 14, ?_⟩
  rw [this]
  refine Go.step rfl ?_
  rfl
theorem s1_start (t : Array Nat) (p : Nat) (hp : p < t.size) : forSearch code1 t 1 p t.size false = S1 t t.size p 5 p p true #[none, none] (-1) (-1) [fs1 p true] 1 none (({} : Seen).add 14) none := by
  unfold forSearch
  show (if (decide (p > t.size) || decide (t.size - p < 1)) = true then _ else _ : M) = _
  rw [if_neg (by simp; omega)]
  rfl
theorem s1_a (t : Array Nat) (ls p h : Nat) (out : Bool) (x y : Option Nat) (f : Sre.Frame) (seen : Seen) : ∃ seen', (S1 t ls p 5 p h out #[x, y] (-1) (-1) [f] 1 none seen none).step = S1 t ls p 7 p h out #[some p, y] 0 (-1) [f] 1 none seen' none := ⟨_, rfl⟩
def n1 (t : Array Nat) (p : Nat) : Nat := spanAt t Unicode.isSpace (min 4294967295 (t.size - p)) p
theorem s1_b (t : Array Nat) (ls p h : Nat) (out : Bool) (y : Option Nat) (f : Sre.Frame) (seen : Seen) (hp : p < t.size) (hn : 1 ≤ n1 t p) :
    ∃ seen', (S1 t ls p 7 p h out #[some p, y] 0 (-1) [f] 1 none seen none).step = S1 t ls p 17 (p + n1 t p) (p + n1 t p) out #[some p, y] 0 (-1) [fr1 (p + n1 t p) out (n1 t p), f] 2 none seen' none := by
  obtain ⟨s', h'⟩ := run_is (t := t) acc1 (min 4294967295 (t.size - p)) p 0 ((seen.add 24).add 13)
  refine ⟨s', ?_⟩
  show M.exec (S1 t ls p 7 p h out #[some p, y] 0 (-1) [f] 1 none seen none) = _
  unfold M.exec
  show (if ((1 : Nat) : Int) > ((t.size : Int) - (p : Nat)) then _ else (match Sre.run code1 t 11 (min 4294967295 ((t.size : Int) - (p : Nat)).toNat) p 0 ((seen.add 24).add 13) with | .error why => _ | .ok (n, seen) => _ : M)) = _
  rw [if_neg (by omega)]
  have e : ((t.size : Int) - (p : Nat)).toNat = t.size - p := by omega
  rw [e, h', Nat.zero_add]
  show (if n1 t p < 1 then _ else _ : M) = _
  rw [if_neg (by omega)]
  rfl
theorem s1_b0 (t : Array Nat) (ls p h : Nat) (out : Bool) (y : Option Nat) (f : Sre.Frame) (seen : Seen) (hp : p < t.size) (hn : ¬ 1 ≤ n1 t p) :
    ∃ seen', (S1 t ls p 7 p h out #[some p, y] 0 (-1) [f] 1 none seen none).step = S1 t ls p 7 p h out #[some p, y] 0 (-1) [f] 1 (some false) seen' none := by
  obtain ⟨s', h'⟩ := run_is (t := t) acc1 (min 4294967295 (t.size - p)) p 0 ((seen.add 24).add 13)
  refine ⟨s', ?_⟩
  show M.exec (S1 t ls p 7 p h out #[some p, y] 0 (-1) [f] 1 none seen none) = _
  unfold M.exec
  show (if ((1 : Nat) : Int) > ((t.size : Int) - (p : Nat)) then _ else (match Sre.run code1 t 11 (min 4294967295 ((t.size : Int) - (p : Nat)).toNat) p 0 ((seen.add 24).add 13) with | .error why => _ | .ok (n, seen) => _ : M)) = _
  rw [if_neg (by omega)]
  have e : ((t.size : Int) - (p : Nat)).toNat = t.size - p := by omega
  rw [e, h', Nat.zero_add]
  show (if n1 t p < 1 then _ else _ : M) = _
  rw [if_pos (by omega)]
  rfl
theorem s1_end (t : Array Nat) (ls h : Nat) (out : Bool) (y : Option Nat) (f : Sre.Frame) (seen : Seen) (p : Nat) (hp : p = t.size) :
    ∃ seen', (S1 t ls p 7 p h out #[some p, y] 0 (-1) [f] 1 none seen none).step = S1 t ls p 7 p h out #[some p, y] 0 (-1) [f] 1 (some false) seen' none := by
  refine ⟨seen.add 24, ?_⟩
  show M.exec (S1 t ls p 7 p h out #[some p, y] 0 (-1) [f] 1 none seen none) = _
  unfold M.exec
  show (if ((1 : Nat) : Int) > ((t.size : Int) - (p : Nat)) then _ else _ : M) = _
  rw [if_pos (by omega)]
  rfl
theorem s1_c (t : Array Nat) (ls st p h q : Nat) (out : Bool) (y : Option Nat) (fs : List Sre.Frame) (seen : Seen) : ∃ seen', (S1 t ls st 17 p h out #[some q, y] 0 (-1) fs 2 none seen none).step = S1 t ls st 19 p h out #[some q, some p] 1 1 fs 2 none seen' none := by
  refine ⟨seen.add 17, ?_⟩
  show M.mark _ 1 = _
  unfold M.mark
  show ({ (S1 t ls st 17 p h out #[some q, y] 0 (-1) fs 2 none (seen.add 17) none) with marks := (if ((1 : Nat) : Int) ≤ (0 : Int) + 1 then #[some q, y] else _ : Array (Option Nat)).setIfInBounds 1 (some p), lastmark := max 0 ((1 : Nat) : Int), lastindex := 1, pc := 19 } : M) = _
  rw [if_pos (by decide)]
  rfl
theorem s1_d (t : Array Nat) (ls st p h q : Nat) (out : Bool) (fs : List Sre.Frame) (seen : Seen) : ∃ seen', (S1 t ls st 19 p h out #[some q, some p] 1 1 fs 2 none seen none).step = S1 t ls st 19 p p out #[some q, some p] 1 1 fs 2 (some true) seen' none := by
  refine ⟨seen.add 1, ?_⟩
  cases out <;> rfl
theorem s1_e (t : Array Nat) (ls st p q n : Nat) (out out' : Bool) (c : Int) (f : Sre.Frame) (seen : Seen) : (S1 t ls st 19 p p out #[some q, some p] 1 1 [fr1 n out' c, f] 2 (some true) seen none).step = S1 t ls st 7 n p out' #[some q, some p] 1 1 [f] 1 (some true) seen none := rfl
theorem s1_f (t : Array Nat) (ls st pos p q n : Nat) (out out' : Bool) (seen : Seen) : (S1 t ls st 7 pos p out #[some q, some p] 1 1 [fs1 n out'] 1 (some true) seen none).step = S1 t ls st 5 n p out' #[some q, some p] 1 1 [] 0 (some true) seen none := rfl
theorem s1_g (t : Array Nat) (ls st pos h : Nat) (out b : Bool) (mk : Array (Option Nat)) (lm li : Int) (seen : Seen) : (S1 t ls st 5 pos h out mk lm li [] 0 (some b) seen none).step = S1 t ls st 5 pos h out mk lm li [] 0 (some b) seen (some (if b then .matched else .failed)) := rfl
theorem s1_h (t : Array Nat) (ls st p h : Nat) (out out' : Bool) (mk : Array (Option Nat)) (seen : Seen) : (S1 t ls st 7 p h out mk 0 (-1) [fs1 p out'] 1 (some false) seen none).step =
    if p < ls then S1 t ls (p + 1) 5 (p + 1) (p + 1) false mk (-1) (-1) [fs1 (p + 1) false] 1 none seen none else S1 t ls st 5 p h out' mk 0 (-1) [] 0 (some false) seen none := by
  show (if p < ls then _ else _ : M) = _
  split <;> rfl

def notSp (c : Nat) : Bool := !Unicode.isSpace c
/-- the first white sign's place from p on (or the end), and the end of the white run from there -/
def spFrom (t : Array Nat) (p : Nat) : Nat := p + spanAt t notSp (t.size - p) p
def spTo (t : Array Nat) (q : Nat) : Nat := q + spanAt t Unicode.isSpace (t.size - q) q
theorem spFrom_le (t : Array Nat) (p : Nat) (hp : p ≤ t.size) : spFrom t p ≤ t.size := by have := spanAt_le t notSp (t.size - p) p; unfold spFrom; omega
theorem spFrom_ge (t : Array Nat) (p : Nat) : p ≤ spFrom t p := by unfold spFrom; omega
theorem spTo_le (t : Array Nat) (p : Nat) (hp : p ≤ t.size) : spTo t p ≤ t.size := by have := spanAt_le t Unicode.isSpace (t.size - p) p; unfold spTo; omega
theorem spFrom_step {t : Array Nat} {p : Nat} (hp : p < t.size) (h : Unicode.isSpace (t.getD p 0) = false) : spFrom t p = spFrom t (p + 1) := by
  unfold spFrom
  rw [show t.size - p = (t.size - (p + 1)) + 1 by omega]
  conv => lhs; unfold spanAt
  rw [if_pos (by unfold notSp; rw [h]; rfl)]
  omega
theorem spFrom_here {t : Array Nat} {p : Nat} (hp : p < t.size) (h : Unicode.isSpace (t.getD p 0) = true) : spFrom t p = p := by
  unfold spFrom
  rw [show t.size - p = (t.size - (p + 1)) + 1 by omega]
  unfold spanAt
  rw [if_neg (by unfold notSp; rw [h]; simp)]
  rfl

theorem n1_is {t : Array Nat} {p : Nat} (hsz : t.size ≤ 16777216) : n1 t p = spanAt t Unicode.isSpace (t.size - p) p := by
  unfold n1; rw [show min 4294967295 (t.size - p) = t.size - p by omega]
theorem n1_pos {t : Array Nat} {p : Nat} (hsz : t.size ≤ 16777216) (hp : p < t.size) : 1 ≤ n1 t p ↔ Unicode.isSpace (t.getD p 0) = true := by
  rw [n1_is hsz, show t.size - p = (t.size - (p + 1)) + 1 by omega]
  unfold spanAt
  cases Unicode.isSpace (t.getD p 0) <;> simp

theorem go1 {t : Array Nat} (hsz : t.size ≤ 16777216) : ∀ (d p h : Nat) (out : Bool) (x y : Option Nat) (seen : Seen), t.size - p = d → p ≤ t.size →
    ∃ k m', k ≤ 4 * d + 8 ∧ Go k (S1 t t.size p 5 p h out #[x, y] (-1) (-1) [fs1 p out] 1 none seen none) m' ∧
      if spFrom t p = t.size then m'.outcome = some .failed else
        m'.outcome = some .matched ∧ m'.start = spFrom t p ∧ m'.handed = spTo t (spFrom t p) ∧ m'.marks = #[some (spFrom t p), some (spTo t (spFrom t p))] ∧ m'.lastmark = 1 := by
  intro d
  induction d with
  | zero =>
    intro p h out x y seen hd hp
    have e : p = t.size := by omega
    obtain ⟨s1, h1⟩ := s1_a t t.size p h out x y (fs1 p out) seen
    obtain ⟨s2, h2⟩ := s1_end t t.size h out y (fs1 p out) s1 p e
    have hF : spFrom t p = t.size := by have := spFrom_le t p hp; have := spFrom_ge t p; omega
    refine ⟨4, S1 t t.size p 5 p h out #[some p, y] 0 (-1) [] 0 (some false) s2 (some .failed), by omega, ?_, by rw [if_pos hF]; rfl⟩
    refine Go.step rfl ?_
    rw [h1]
    refine Go.step rfl ?_
    rw [h2]
    refine Go.step rfl ?_
    rw [s1_h, if_neg (by omega)]
    refine Go.step rfl ?_
    rw [s1_g]
    rfl
  | succ d ih =>
    intro p h out x y seen hd hp
    have hlt : p < t.size := by omega
    obtain ⟨s1, h1⟩ := s1_a t t.size p h out x y (fs1 p out) seen
    cases hs : Unicode.isSpace (t.getD p 0) with
    | true =>
      have hF := spFrom_here hlt hs
      have hn := (n1_pos hsz hlt).mpr hs
      obtain ⟨s2, h2⟩ := s1_b t t.size p h out y (fs1 p out) s1 hlt hn
      obtain ⟨s3, h3⟩ := s1_c t t.size p (p + n1 t p) (p + n1 t p) p out y [fr1 (p + n1 t p) out (n1 t p), fs1 p out] s2
      obtain ⟨s4, h4⟩ := s1_d t t.size p (p + n1 t p) (p + n1 t p) p out [fr1 (p + n1 t p) out (n1 t p), fs1 p out] s3
      have hT : spTo t p = p + n1 t p := by unfold spTo; rw [n1_is hsz]
      refine ⟨7, S1 t t.size p 5 p (p + n1 t p) out #[some p, some (p + n1 t p)] 1 1 [] 0 (some true) s4 (some .matched), by omega, ?_, ?_⟩
      · refine Go.step rfl ?_
        rw [h1]
        refine Go.step rfl ?_
        rw [h2]
        refine Go.step rfl ?_
        rw [h3]
        refine Go.step rfl ?_
        rw [h4]
        refine Go.step rfl ?_
        rw [s1_e]
        refine Go.step rfl ?_
        rw [s1_f]
        refine Go.step rfl ?_
        rw [s1_g]
        rfl
      · rw [if_neg (by omega), hF, hT]
        exact ⟨rfl, rfl, rfl, rfl, rfl⟩
    | false =>
      have hF := spFrom_step hlt hs
      have hn : ¬ 1 ≤ n1 t p := fun q => by rw [(n1_pos hsz hlt).mp q] at hs; cases hs
      obtain ⟨s2, h2⟩ := s1_b0 t t.size p h out y (fs1 p out) s1 hlt hn
      obtain ⟨k, m', hk, hg, hr⟩ := ih (p + 1) (p + 1) false (some p) y s2 (by omega) (by omega)
      rw [← hF] at hr
      refine ⟨k + 1 + 1 + 1, m', by omega, ?_, hr⟩
      refine Go.step rfl ?_
      rw [h1]
      refine Go.step rfl ?_
      rw [h2]
      refine Go.step rfl ?_
      rw [s1_h, if_pos hlt]
      exact hg

theorem search1 {t : Array Nat} (hsz : t.size ≤ 16777216) (p : Nat) (hp : p ≤ t.size) : ∃ k m', k ≤ 4 * t.size + 8 ∧ Go k (forSearch code1 t 1 p t.size false) m' ∧
    if spFrom t p = t.size then m'.outcome = some .failed else
      m'.outcome = some .matched ∧ m'.start = spFrom t p ∧ m'.handed = spTo t (spFrom t p) ∧ m'.marks = #[some (spFrom t p), some (spTo t (spFrom t p))] ∧ m'.lastmark = 1 := by
  by_cases h : p < t.size
  · rw [s1_start t p h]
    obtain ⟨k, m', hk, hg, hr⟩ := go1 hsz (t.size - p) p p true none none (({} : Seen).add 14) rfl hp
    exact ⟨k, m', by omega, hg, hr⟩
  · have e : p = t.size := by omega
    subst e
    obtain ⟨seen, hg⟩ := s1_none t
    have hF : spFrom t t.size = t.size := by have := spFrom_le t t.size (Nat.le_refl _); have := spFrom_ge t t.size; omega
    exact ⟨1, _, by omega, hg, by rw [if_pos hF]; rfl⟩
end
section
open PySem PySem.Sre PySem.Calls PySem.Builtin.Re PyProof.Rows
theorem plain_pattern : PlainAttrs "re.Pattern" := ⟨⟨"object.__getattribute__", by rw [typeLookup_type, builtinLookup_eq_fast]; kernel_rfl, by decide +kernel⟩, by rw [typeLookup_type, builtinLookup_eq_fast]; kernel_rfl⟩
theorem plain_match : PlainAttrs "re.Match" := ⟨⟨"object.__getattribute__", by rw [typeLookup_type, builtinLookup_eq_fast]; kernel_rfl, by decide +kernel⟩, by rw [typeLookup_type, builtinLookup_eq_fast]; kernel_rfl⟩
theorem slot_pmatch : Slot "re.Pattern" "match" "re.Pattern.match" :=
  .of (owner := "re.Pattern") (n := "match") (by rw [typeLookup_type, builtinLookup_eq_fast]; kernel_rfl) (by decide +kernel) (by decide +kernel) (by decide +kernel)
    (by first | exact .inl (by decide +kernel) | exact .inr (by decide +kernel)) (by rw [isSubtype_type]; kernel_rfl)
theorem type_pmatch : typeOf (.builtin "re.Pattern.match") = pure (.type "method_descriptor") := by show builtinType _ = _; rw [builtinType_eq_fast]; kernel_rfl
theorem entry_pmatch : entryFor table "re.Pattern.match" = some Builtin.«re.Pattern.match» := entryFor_of_tree (by kernel_rfl)
theorem slot_psplit : Slot "re.Pattern" "split" "re.Pattern.split" :=
  .of (owner := "re.Pattern") (n := "split") (by rw [typeLookup_type, builtinLookup_eq_fast]; kernel_rfl) (by decide +kernel) (by decide +kernel) (by decide +kernel)
    (by first | exact .inl (by decide +kernel) | exact .inr (by decide +kernel)) (by rw [isSubtype_type]; kernel_rfl)
theorem type_psplit : typeOf (.builtin "re.Pattern.split") = pure (.type "method_descriptor") := by show builtinType _ = _; rw [builtinType_eq_fast]; kernel_rfl
theorem entry_psplit : entryFor table "re.Pattern.split" = some Builtin.«re.Pattern.split» := entryFor_of_tree (by kernel_rfl)
theorem slot_mgroup : Slot "re.Match" "group" "re.Match.group" :=
  .of (owner := "re.Match") (n := "group") (by rw [typeLookup_type, builtinLookup_eq_fast]; kernel_rfl) (by decide +kernel) (by decide +kernel) (by decide +kernel)
    (by first | exact .inl (by decide +kernel) | exact .inr (by decide +kernel)) (by rw [isSubtype_type]; kernel_rfl)
theorem type_mgroup : typeOf (.builtin "re.Match.group") = pure (.type "method_descriptor") := by show builtinType _ = _; rw [builtinType_eq_fast]; kernel_rfl
theorem entry_mgroup : entryFor table "re.Match.group" = some Builtin.«re.Match.group» := entryFor_of_tree (by kernel_rfl)
theorem args_pmatch (a b : Value) : argsOk "re.Pattern.match" ⟨[a, b], []⟩ := by unfold argsOk; kernel_rfl
theorem args_psplit (a b : Value) : argsOk "re.Pattern.split" ⟨[a, b], []⟩ := by unfold argsOk; kernel_rfl
theorem args_mgroup (a : Value) : argsOk "re.Match.group" ⟨[a], []⟩ := by unfold argsOk; kernel_rfl
end
section
open PySem PySem.Sre PySem.Calls PySem.Builtin.Re PyProof.Rows
section
variable {M' : Model} {A : Around} {E : Value → Shared → Prop} {s : Shared}
theorem drive_go {Q : M → Shared → Prop} : ∀ (turns k : Nat) (m m' : M), Go k m m' → m'.outcome.isSome = true → k ≤ 4 * turns → 0 < turns → Q m' s → wpAny M' A (reDrive turns m) Q E s
  | 0, _, _, _, _, _, _, h0, _ => absurd h0 (Nat.lt_irrefl _)
  | turns + 1, k, m, m', hg, ho, hk, _, hq => by
    unfold reDrive
    show wpAny M' A (if (m.runFor 4).outcome.isSome = true then _ else _) Q E s
    by_cases h : (m.runFor 4).outcome.isSome = true
    · rw [if_pos h]
      have e : m.runFor 4 = m' := by
        rcases Nat.le_total k 4 with h4 | h4
        · have : m.runFor 4 = m'.runFor (4 - k) := by
            rw [show (4 : Nat) = k + (4 - k) by omega, runFor_add, hg, show k + (4 - k) - k = 4 - k by omega]
          rw [this, runFor_done ho]
        · have : m' = (m.runFor 4).runFor (k - 4) := by
            rw [← runFor_add, show 4 + (k - 4) = k by omega]; exact hg.symm
          rw [this, runFor_done h]
      show wpAny M' A (pure (m.runFor 4)) Q E s
      rw [e]; exact wpAny_pure hq
    · rw [if_neg h]
      have h4 : 4 < k := by
        rcases Nat.lt_or_ge 4 k with q | q
        · exact q
        · exfalso
          apply h
          have : m.runFor 4 = m'.runFor (4 - k) := by
            rw [show (4 : Nat) = k + (4 - k) by omega, runFor_add, hg, show k + (4 - k) - k = 4 - k by omega]
          rw [this, runFor_done ho]; exact ho
      refine wpAny_bind (wpAny_rule ?_)
      refine drive_go turns (k - 4) _ m' ?_ ho (by omega) (by omega) hq
      show (m.runFor 4).runFor (k - 4) = m'
      rw [← runFor_add, show 4 + (k - 4) = k by omega]; exact hg

theorem rules_for {names : Array String} {has : Nat → Bool} {Q : Unit → Shared → Prop} (h : Q () s) : ∀ l : List Nat, wpAny M' A (forIn l PUnit.unit fun i _ => (if has i = true then (do rule (names.getD i ""); pure (ForInStep.yield PUnit.unit)) else pure (ForInStep.yield PUnit.unit) : Sem (ForInStep PUnit))) (fun u s' => Q u s') E s
  | [] => by rw [List.forIn_nil]; exact wpAny_pure h
  | i :: l => by
    rw [List.forIn_cons]
    refine wpAny_bind ?_
    by_cases hh : has i = true
    · rw [if_pos hh]; exact wpAny_bind (wpAny_rule (wpAny_pure (rules_for h l)))
    · rw [if_neg hh]; exact wpAny_pure (rules_for h l)

theorem runToEnd_go {Q : Option M → Shared → Prop} {k : Nat} {m m' : M} {o : Sre.Outcome} (hg : Go k m m') (ho : m'.outcome = some o) (hk : k ≤ 2 ^ 60)
    (h : match o with | .matched => Q (some m') s | .failed => Q none s | .stuck _ => False) : wpAny M' A (reRunToEnd m) Q E s := by
  unfold reRunToEnd
  refine wpAny_bind (drive_go (2 ^ 64) k m m' hg (by rw [ho]; rfl) (by omega) (by decide) ?_)
  refine wpAny_bind (wpAny_mono (rules_for (Q := fun _ s' => s' = s) rfl _) ?_ fun _ _ x => x)
  rintro _ _ rfl
  rw [ho]
  cases o with
  | matched => exact wpAny_pure h
  | failed => exact wpAny_pure h
  | stuck w => exact h.elim

theorem text_of {x : Str} {t : Tok} {Q : Array Nat × Nat → Shared → Prop} (h : Q (x.cps, 0) s) : wpAny M' A (reTextOf (.str x t)) Q E s := by
  unfold reTextOf
  exact wpAny_bind (wpAny_pure (wpAny_pure h))
theorem rawItems_of {a : Addr} {o : Obj} {items n} {Q : Array Int → Shared → Prop} (ho : s.heap.get? a = some o) (hd : o.data = .seq items n) (h : Q (items.map reRawOf) s) :
    wpAny M' A (reRawItems (.ref a)) Q E s := by
  unfold reRawItems
  exact wpAny_bind (wpAny_seqItems ho hd (wpAny_pure h))

structure IsPat (h : Heap) (a : Addr) (code : Array Nat) (groups : Nat) : Prop where
  obj : ∃ o p f c vs n oc, h.get? a = some o ∧ o.cls = .type "re.Pattern" ∧ o.dict = none ∧ o.data = .fields #[p, f, .int groups 0, .none, .none, .ref c, .int 0 0] ∧ h.get? c = some oc ∧ oc.data = .seq vs n ∧ vs.map (fun v => (reRawOf v).toNat) = code

theorem target_of {a : Addr} {code : Array Nat} {groups : Nat} {x : Str} {t : Tok} {Q : ReTarget → Shared → Prop} (P : IsPat s.heap a code groups) (hx : x.length ≤ 16777216)
    (h : Q { pattern := .ref a, string := .str x t, code, text := x.cps, kind := 0, groups, pos := 0, lim := x.cps.size } s) :
    wpAny M' A (reTarget "re.Pattern.match" "match" ⟨[.ref a, .str x t], []⟩) Q E s := by
  obtain ⟨o, p, f, c, vs, n, oc, ho, hc, hdn, hd, hoc, hdc, hcode⟩ := P.obj
  unfold reTarget
  show wpAny M' A (reNamed "re.Pattern.match" "match" ["string", "pos", "endpos"] 1 [.str x t] [] >>= _) Q E s
  refine wpAny_bind (wpAny_of_eq (a := [some (.str x t), none, none]) rfl ?_)
  refine wpAny_bind (wpAny_pure ?_)
  refine wpAny_bind (wpAny_pure ?_)
  refine wpAny_bind (wpAny_fieldsOf ho hd ?_)
  refine wpAny_bind (text_of ?_)
  show wpAny M' A (reNoCollectionInside (.str x t) 0 >>= _) Q E s
  refine wpAny_bind (wpAny_pure ?_)
  refine wpAny_bind (rawItems_of hoc hdc (wpAny_pure ?_))
  have e : min (2 ^ 63 - 1 : Int).toNat x.cps.size = x.cps.size := by
    have : x.cps.size ≤ 16777216 := hx
    omega
  have e2 : ((vs.map reRawOf).map (·.toNat)) = code := by rw [← hcode, Array.map_map]; rfl
  rw [e2]
  show Q ⟨_, _, _, _, _, _, _, min (2 ^ 63 - 1 : Int).toNat x.cps.size⟩ s
  rw [e]
  exact h

theorem runToEnd_yes {Q : Option M → Shared → Prop} {k : Nat} {m m' : M} (hg : Go k m m') (ho : m'.outcome = some .matched) (hk : k ≤ 2 ^ 60) (h : Q (some m') s) : wpAny M' A (reRunToEnd m) Q E s :=
  runToEnd_go hg ho hk h
theorem runToEnd_no {Q : Option M → Shared → Prop} {k : Nat} {m m' : M} (hg : Go k m m') (ho : m'.outcome = some .failed) (hk : k ≤ 2 ^ 60) (h : Q none s) : wpAny M' A (reRunToEnd m) Q E s :=
  runToEnd_go hg ho hk h
/-- what a found match is -/
structure IsMatch (h : Heap) (r : Addr) (x : Str) (t : Tok) (b e : Nat) : Prop where
  obj : ∃ o v2 v3 v4 v5 tp op vs n, h.get? r = some o ∧ o.cls = .type "re.Match" ∧ o.dict = none ∧ o.data = .fields #[.str x t, v2, v3, v4, v5, .ref tp] ∧ h.get? tp = some op ∧ op.data = .seq vs n ∧ 2 ≤ vs.size ∧ vs[0]? = some (rawInt b) ∧ vs[1]? = some (rawInt e)

theorem newMatch_of {pat : Value} {x : Str} {t : Tok} {groups pos lim : Nat} {m : M} {Q : Value → Shared → Prop} (hs : ∀ g, g < groups → ∀ b e, m.marks.getD (2 * g) none = some b → m.marks.getD (2 * g + 1) none = some e → b ≤ e)
    (hg : groups ≤ 100) (h : ∀ r h', s.heap.StaysIn h' → s.heap.get? r = none → IsMatch h' r x t m.start m.handed → Q (.ref r) { s with heap := h' }) :
    wpAny M' A (reNewMatch pat (.str x t) groups pos lim m) Q E s := by
  unfold reNewMatch
  dsimp only
  rw [if_neg (by
    rw [Bool.not_eq_true, List.any_eq_false]
    intro g hg'
    have hlt := List.mem_range.mp hg'
    split
    · rename_i b e hb he
      have := hs g hlt b e hb he
      simp
      intro _
      exact this
    · simp)]
  refine wpAny_bind (wpAny_newObj_type ?_ ?_)
  · refine wpAny_newObj_type ?_ (by size_fits)
    refine h _ _ (fun b o e => Heap.get?_push_of_some _ (Heap.get?_push_of_some _ e)) ?_ ⟨_, _, _, _, _, _, _, _, _, Heap.get?_push_size _ rfl, rfl, rfl, rfl, Heap.get?_push_of_some _ (Heap.get?_push_size _ rfl), rfl, ?_, ?_, ?_⟩
    · cases hq : s.heap.get? (s.heap.push _).objs.size with
      | none => rfl
      | some o => have := Heap.lt_size hq; rw [Heap.size_push] at this; exact (Nat.lt_irrefl _ (Nat.lt_of_succ_lt this)).elim
    · simp
    · simp
    · simp
  · show (List.toArray _).size ≤ _
    rw [List.size_toArray, List.length_cons, List.length_cons, List.length_flatMap, sizeLine_eq]
    have key : ∀ l : List Nat, (∀ x ∈ l, x ≤ 2) → l.sum ≤ 2 * l.length := fun l => by
      induction l with
      | nil => intro _; simp
      | cons a l ih =>
        intro h
        have h1 := h a (by simp)
        have h2 := ih fun x hx => h x (by simp [hx])
        rw [List.sum_cons, List.length_cons]
        omega
    refine Nat.le_trans (Nat.add_le_add_right (Nat.add_le_add_right (key _ ?_) 1) 1) ?_
    · intro n hn
      obtain ⟨g, _, rfl⟩ := List.mem_map.mp hn
      split <;> simp
    · simp only [List.length_map, List.length_range]
      omega
end
section
variable {prog : Program} {w : World} {A : Around} {E : Value → Shared → Prop} {s : Shared}
theorem call_own {T : String} {name : Str} {id : String} {B : Builtin} {self : Value} {rest : List Value} {Q : Value → Shared → Prop} (slot : Slot T name id) (hT : s.TypeIs self T)
    (entry : entryFor table id = some B) (args : argsOk id ⟨self :: rest, []⟩) (h : wpAny (model prog w) A.in1 (B ⟨self :: rest, []⟩) (fun fin s' => ∃ v, fin = .done (.ret v) ∧ Q v s') E s) :
    wpAny (model prog w) A (call (.builtin id) (self :: rest)) Q E s :=
  wpAny_call (codeAny_call_builtin slot.plain entry (slot.check _ _ _ _ _ _ _ _ hT args (wpAny_mono h (fun fin s' h' => by obtain ⟨v, rfl, hv⟩ := h'; exact hv) fun _ _ x => x)))

theorem IsPat.typeIs {a : Addr} {code : Array Nat} {g : Nat} {s : Shared} (P : IsPat s.heap a code g) : s.TypeIs (.ref a) "re.Pattern" := by
  obtain ⟨o, p, f, c, vs, n, oc, ho, hc, _⟩ := P.obj
  exact ⟨o, ho, hc⟩

theorem call_match_no {a : Addr} {x : Str} {t : Tok} {Q : Value → Shared → Prop} {code : Array Nat} {groups k : Nat} {m' : M} (P : IsPat s.heap a code groups) (hx : x.length ≤ 16777216)
    (hg : Go k (forMatch code x.cps groups 0 x.cps.size false false) m') (ho : m'.outcome = some .failed) (hk : k ≤ 2 ^ 60) (h : Q .none s) :
    wpAny (model prog w) A (call (.builtin "re.Pattern.match") [.ref a, .str x t]) Q E s := by
  refine call_own slot_pmatch (IsPat.typeIs P) entry_pmatch (args_pmatch _ _) ?_
  unfold Builtin.«re.Pattern.match»
  refine wpAny_bind (target_of P hx ?_)
  unfold reAnswer
  refine wpAny_bind ?_
  refine runToEnd_no hg ho hk ?_
  show wpAny _ _ (ret .none) _ E s
  exact wpAny_pure ⟨_, rfl, h⟩
theorem call_match_yes {a : Addr} {x : Str} {t : Tok} {Q : Value → Shared → Prop} {code : Array Nat} {groups k : Nat} {m' : M} (P : IsPat s.heap a code groups) (hx : x.length ≤ 16777216)
    (hg : Go k (forMatch code x.cps groups 0 x.cps.size false false) m') (ho : m'.outcome = some .matched) (hk : k ≤ 2 ^ 60)
    (hs : ∀ g, g < groups → ∀ b e, m'.marks.getD (2 * g) none = some b → m'.marks.getD (2 * g + 1) none = some e → b ≤ e) (hgr : groups ≤ 100)
    (h : ∀ r h', s.heap.StaysIn h' → s.heap.get? r = none → IsMatch h' r x t m'.start m'.handed → Q (.ref r) { s with heap := h' }) :
    wpAny (model prog w) A (call (.builtin "re.Pattern.match") [.ref a, .str x t]) Q E s := by
  refine call_own slot_pmatch (IsPat.typeIs P) entry_pmatch (args_pmatch _ _) ?_
  unfold Builtin.«re.Pattern.match»
  refine wpAny_bind (target_of P hx ?_)
  unfold reAnswer
  refine wpAny_bind ?_
  refine runToEnd_yes hg ho hk ?_
  refine wpAny_bind (newMatch_of hs hgr fun r h' hk hr hm => ?_)
  exact wpAny_pure ⟨_, rfl, h r h' hk hr hm⟩
theorem call_match2 {a : Addr} {x : Str} {t : Tok} {Q : Value → Shared → Prop} (P : IsPat s.heap a code2 0) (hx : x.length ≤ 16777216)
    (hno : white x = false → Q .none s) (hyes : white x = true → ∀ r h', s.heap.StaysIn h' → Q (.ref r) { s with heap := h' }) :
    wpAny (model prog w) A (call (.builtin "re.Pattern.match") [.ref a, .str x t]) Q E s := by
  obtain ⟨k, m', hk, hg, ho⟩ := match2 x.cps hx
  have hxx : x.cps.size ≤ 16777216 := hx
  have hk' : k ≤ 2 ^ 60 := Nat.le_trans hk (by omega)
  by_cases hw : x.cps.all Unicode.isSpace = true
  · rw [if_pos hw] at ho
    exact call_match_yes P hx hg ho hk' (fun g hg => absurd hg (Nat.not_lt_zero _)) (Nat.zero_le _) fun r h' hs _ _ => hyes hw r h' hs
  · rw [if_neg hw] at ho
    have hw' : white x = false := by unfold white; simpa using hw
    exact call_match_no P hx hg ho hk' (hno hw')

/-- the blanks and tabs that a text begins with -/
def indentLen (x : Str) : Nat := spanAt x.cps isBlank x.cps.size 0
def indent (x : Str) : Str := ⟨x.cps.extract 0 (indentLen x)⟩
theorem call_match3 {a : Addr} {x : Str} {t : Tok} {Q : Value → Shared → Prop} (P : IsPat s.heap a code3 1) (hx : x.length ≤ 16777216)
    (h : ∀ r h', s.heap.StaysIn h' → s.heap.get? r = none → IsMatch h' r x t 0 (indentLen x) → Q (.ref r) { s with heap := h' }) :
    wpAny (model prog w) A (call (.builtin "re.Pattern.match") [.ref a, .str x t]) Q E s := by
  obtain ⟨k, m', n, hk, hg, ho, hn, hst, hhd, hmk, hlm, hli⟩ := match3 x.cps hx
  have hk' : k ≤ 2 ^ 60 := Nat.le_trans hk (by omega)
  refine call_match_yes P hx hg ho hk' ?_ (Nat.le_of_ble_eq_true rfl) fun r h' hs hr hm => ?_
  · intro g hg b e hb he
    have e0 : g = 0 := by omega
    subst e0
    rw [hmk] at hb he
    cases hb; exact Nat.zero_le _
  · rw [hst, hhd, hn] at hm
    exact h r h' hs hr hm

theorem call_group {r : Addr} {x : Str} {t : Tok} {b e : Nat} {Q : Value → Shared → Prop} (I : IsMatch s.heap r x t b e) (hx : x.length ≤ 16777216)
    (h : Q (.str ⟨x.cps.extract b e⟩ s.toks) { s with toks := s.toks + 1 }) : wpAny (model prog w) A (call (.builtin "re.Match.group") [.ref r]) Q E s := by
  obtain ⟨o, v2, v3, v4, v5, tp, op, vs, n, ho, hc, hdn, hd, hop, hdp, hsz, h0, h1⟩ := I.obj
  refine call_own slot_mgroup ⟨o, ho, hc⟩ entry_mgroup (args_mgroup _) ?_
  unfold Builtin.«re.Match.group»
  refine wpAny_bind (m := noKeywords _ _) (wpAny_pure ?_)
  unfold reFound
  refine wpAny_bind (wpAny_bind (wpAny_fieldsOf ho hd ?_))
  refine wpAny_bind (rawItems_of hop hdp (wpAny_pure ?_))
  unfold reGroupText
  have e0 : (vs.map reRawOf).getD (2 * 0) (-1) = b := by
    simp [Array.getD_eq_getD_getElem?, h0, reRawOf, rawInt]
  have e1 : (vs.map reRawOf).getD (2 * 0 + 1) (-1) = e := by
    simp [Array.getD_eq_getD_getElem?, h1, reRawOf, rawInt]
  dsimp only
  rw [e0, e1, if_neg (by simp)]
  refine wpAny_bind (wpAny_bind (text_of ?_))
  have hl : (⟨x.cps.extract b e⟩ : Str).length ≤ sizeLine := by
    rw [sizeLine_eq]
    show (x.cps.extract b e).size ≤ _
    rw [Array.size_extract]
    have : x.cps.size ≤ 16777216 := hx
    omega
  refine wpAny_mkStr (wpAny_pure ⟨_, rfl, ?_⟩) hl
  exact h
end
end
section
open PySem PySem.Sre PySem.Calls PySem.Builtin.Re PyProof.Rows
/-- a text's words and the white between them, from a place on -/
def piecesFrom (t : Array Nat) : (fuel st : Nat) → List Str
  | 0, st => [⟨t.extract st t.size⟩]
  | f + 1, st => if spFrom t st = t.size then [⟨t.extract st t.size⟩] else ⟨t.extract st (spFrom t st)⟩ :: ⟨t.extract (spFrom t st) (spTo t (spFrom t st))⟩ :: piecesFrom t f (spTo t (spFrom t st))
def pieces (x : Str) : List Str := piecesFrom x.cps (x.cps.size + 1) 0

theorem strsAre_append {vs ws : List Value} {xs ys : List Str} (h : StrsAre vs xs) (h' : StrsAre ws ys) : StrsAre (vs ++ ws) (xs ++ ys) := by
  induction h with
  | nil => exact h'
  | cons y t _ ih => exact .cons y t ih
theorem strsAre_length {vs : List Value} {xs : List Str} (h : StrsAre vs xs) : vs.length = xs.length := by
  induction h with
  | nil => rfl
  | cons y t _ ih => rw [List.length_cons, List.length_cons, ih]

theorem spTo_gt {t : Array Nat} {p : Nat} (hp : spFrom t p < t.size) : spFrom t p < spTo t (spFrom t p) := by
  have h : Unicode.isSpace (t.getD (spFrom t p) 0) = true := by
    have := (spanAt_add t notSp (t.size - p) p).2
    have e : spFrom t p = p + spanAt t notSp (t.size - p) p := rfl
    have h1 := this (by omega)
    rw [← e] at h1
    unfold notSp at h1
    simpa using h1
  unfold spTo
  have : t.size - spFrom t p = (t.size - (spFrom t p + 1)) + 1 := by omega
  rw [this]
  unfold spanAt
  rw [if_pos h]
  omega

theorem piecesFrom_len (t : Array Nat) : ∀ f st, (piecesFrom t f st).length ≤ 2 * f + 1
  | 0, st => by simp [piecesFrom]
  | f + 1, st => by
    unfold piecesFrom
    split
    · simp
    · simp only [List.length_cons]
      have := piecesFrom_len t f (spTo t (spFrom t st))
      omega
theorem piecesFrom_more (t : Array Nat) : ∀ f f' st, st ≤ t.size → t.size - st < f → f ≤ f' → piecesFrom t f' st = piecesFrom t f st := by
  intro f
  induction f with
  | zero => intro f' st h1 h2; omega
  | succ f ih =>
    intro f' st h1 h2 h3
    obtain ⟨g, rfl⟩ : ∃ g, f' = g + 1 := ⟨f' - 1, by omega⟩
    unfold piecesFrom
    split
    · rfl
    · rename_i hne
      have := spFrom_le t st h1
      have hlt : spFrom t st < t.size := by omega
      have h4 := spTo_gt hlt
      have h5 := spFrom_ge t st
      have h6 := spTo_le t (spFrom t st) this
      rw [ih g (spTo t (spFrom t st)) h6 (by omega) (by omega)]

section
variable {M' : Model} {A : Around} {E : Value → Shared → Prop} {s : Shared}
theorem wholeTarget_of {a : Addr} {code : Array Nat} {groups : Nat} {x : Str} {t : Tok} {Q : ReTarget → Shared → Prop} (P : IsPat s.heap a code groups)
    (h : Q { pattern := .ref a, string := .str x t, code, text := x.cps, kind := 0, groups, pos := 0, lim := x.cps.size } s) :
    wpAny M' A (reWholeTarget (.ref a) (.str x t)) Q E s := by
  obtain ⟨o, p, f, c, vs, n, oc, ho, hc, hdn, hd, hoc, hdc, hcode⟩ := P.obj
  unfold reWholeTarget
  refine wpAny_bind (wpAny_fieldsOf ho hd ?_)
  refine wpAny_bind (text_of ?_)
  show wpAny M' A (reNoCollectionInside (.str x t) 0 >>= _) Q E s
  refine wpAny_bind (wpAny_pure ?_)
  refine wpAny_bind (rawItems_of hoc hdc (wpAny_pure ?_))
  have e2 : ((vs.map reRawOf).map (·.toNat)) = code := by rw [← hcode, Array.map_map]; rfl
  rw [e2]
  exact h

theorem slice_of {t : Array Nat} {b e : Nat} {Q : Value → Shared → Prop} (ht : t.size ≤ 16777216) (h : ∀ tk tk', Q (.str ⟨t.extract b e⟩ tk) { s with toks := tk' }) : wpAny M' A (reSlice t 0 b e) Q E s := by
  unfold reSlice
  have hl : (⟨t.extract b e⟩ : Str).length ≤ sizeLine := by
    rw [sizeLine_eq]
    show (t.extract b e).size ≤ _
    rw [Array.size_extract]
    omega
  exact wpAny_mkStr (h _ _) hl

/-- the state of split's loop -/
abbrev SplitSt := Array Value × Nat × Nat × Bool × Int × Bool
theorem split_loop {t : ReTarget} (hc : t.code = code1) (hg : t.groups = 1) (hk : t.kind = 0) (hl : t.lim = t.text.size) (hsz : t.text.size ≤ 16777216) {Q : SplitSt → Shared → Prop}
    (f : Nat → SplitSt → Sem (ForInStep SplitSt))
    (hf : ∀ i st, f i st = (if (!st.2.2.2.2.2) = true then do
        let r ← (if ((0 : Int) != 0 && decide (st.2.2.2.2.1 ≥ 0)) = true then pure none else reNextFound t st.2.1 st.2.2.2.1)
        match r with
        | none => pure (ForInStep.yield (st.1, st.2.1, st.2.2.1, st.2.2.2.1, st.2.2.2.2.1, true))
        | some m => do
          let v ← reSlice t.text t.kind st.2.2.1 m.start
          let out ← forIn (List.range t.groups) (st.1.push v) fun g o => do
            let w ← reMachineGroup t m (g + 1) (pure Value.none)
            pure (ForInStep.yield (o.push w))
          pure (ForInStep.yield (out, m.handed, m.handed, m.handed == m.start, st.2.2.2.2.1 + 1, st.2.2.2.2.2))
      else pure (ForInStep.yield (st.1, st.2.1, st.2.2.1, st.2.2.2.1, st.2.2.2.2.1, st.2.2.2.2.2)))) :
    ∀ (l : List Nat) (out : Array Value) (xs : List Str) (st : Nat) (n : Int) (over : Bool) (s : Shared), StrsAre out.toList xs → st ≤ t.text.size →
      (over = true → spFrom t.text st = t.text.size) → (over = false → t.text.size - st < l.length) →
      (∀ (out' : Array Value) ys st' must n' tk, StrsAre out'.toList ys → ys ++ [⟨t.text.extract st' t.text.size⟩] = xs ++ piecesFrom t.text (t.text.size + 1) st → Q (out', st', st', must, n', true) { s with toks := tk }) →
      wpAny M' A (forIn l (out, st, st, false, n, over) f) Q E s := by
  intro l
  induction l with
  | nil =>
    intro out xs st n over s hx hst ho hn hQ
    rw [List.forIn_nil]
    cases over with
    | false => exact absurd (hn rfl) (Nat.not_lt_zero _)
    | true =>
      refine wpAny_pure (hQ out xs st false n s.toks hx ?_)
      unfold piecesFrom
      rw [if_pos (ho rfl)]
  | cons i l ih =>
    intro out xs st n over s hx hst ho hn hQ
    rw [List.forIn_cons, hf]
    cases over with
    | true =>
      refine wpAny_bind ?_
      rw [if_neg (by simp)]
      exact wpAny_pure (ih out xs st n true s hx hst ho (fun h => nomatch h) hQ)
    | false =>
      refine wpAny_bind ?_
      rw [if_pos (by simp)]
      refine wpAny_bind ?_
      rw [if_neg (by simp)]
      unfold reNextFound
      rw [hc, hg, hl]
      obtain ⟨k, m', hk', hgo, hr⟩ := search1 hsz st hst
      have hk2 : k ≤ 2 ^ 60 := Nat.le_trans hk' (by omega)
      by_cases he : spFrom t.text st = t.text.size
      · rw [if_pos he] at hr
        refine runToEnd_no hgo hr hk2 ?_
        exact wpAny_pure (ih out xs st n true s hx hst (fun _ => he) (fun h => nomatch h) hQ)
      · rw [if_neg he] at hr
        obtain ⟨h1, h2, h3, h4, h5⟩ := hr
        refine runToEnd_yes hgo h1 hk2 ?_
        have hlt : spFrom t.text st < t.text.size := by have := spFrom_le t.text st hst; omega
        have hgt := spTo_gt hlt
        have hge := spFrom_ge t.text st
        have hle := spTo_le t.text (spFrom t.text st) (Nat.le_of_lt hlt)
        dsimp only
        rw [hk, h2, h3]
        refine wpAny_bind (slice_of hsz fun tk tk' => ?_)
        show wpAny M' A (forIn (List.range 1) _ _ >>= _) _ E _
        refine wpAny_bind ?_
        show wpAny M' A (forIn [0] _ _) _ E _
        rw [List.forIn_cons]
        refine wpAny_bind ?_
        refine wpAny_bind ?_
        unfold reMachineGroup
        rw [h4, h5, if_neg (by decide)]
        show wpAny M' A (if spTo t.text (spFrom t.text st) < spFrom t.text st then _ else _) _ E _
        rw [if_neg (by omega), hk]
        refine slice_of hsz fun tk2 tk3 => ?_
        refine wpAny_pure ?_
        dsimp only
        rw [List.forIn_nil]
        refine wpAny_pure ?_
        have hb : (spTo t.text (spFrom t.text st) == spFrom t.text st) = false := by simp; omega
        rw [hb]
        refine wpAny_pure (ih _ (xs ++ [⟨t.text.extract st (spFrom t.text st)⟩, ⟨t.text.extract (spFrom t.text st) (spTo t.text (spFrom t.text st))⟩]) _ (n + 1) false _ ?_ hle (fun h => nomatch h) (fun _ => ?_) ?_)
        · simp only [Array.toList_push, List.append_assoc]
          exact strsAre_append hx (.cons _ _ (.cons _ _ .nil))
        · have := hn rfl
          rw [List.length_cons] at this
          omega
        · intro out' ys st' must n' tk4 hy heq
          refine hQ out' ys st' must n' tk4 hy ?_
          rw [heq]
          conv => rhs; unfold piecesFrom
          rw [if_neg he, List.append_assoc]
          rw [piecesFrom_more t.text t.text.size (t.text.size + 1) _ hle (by omega) (by omega)]
          rfl
end

section
variable {prog : Program} {w : World} {A : Around} {E : Value → Shared → Prop} {s : Shared}
theorem call_split {a : Addr} {x : Str} {t : Tok} {Q : Value → Shared → Prop} (P : IsPat s.heap a code1 1) (hx : x.length ≤ 1000000)
    (h : ∀ vs tk, StrsAre vs (pieces x) → Q (.ref s.heap.objs.size) { s with heap := s.heap.push { cls := .type "list", data := .seq vs.toArray }, toks := tk }) :
    wpAny (model prog w) A (call (.builtin "re.Pattern.split") [.ref a, .str x t]) Q E s := by
  refine call_own slot_psplit (IsPat.typeIs P) entry_psplit (args_psplit _ _) ?_
  have hc : ∀ c1, c1 = code1 → IsPat s.heap a c1 1 → wpAny (model prog w) A.in1 (Builtin.«re.Pattern.split» ⟨[.ref a, .str x t], []⟩) (fun fin s' => ∃ v, fin = .done (.ret v) ∧ Q v s') E s := by
    intro c1 hc1 P
    unfold Builtin.«re.Pattern.split»
    show wpAny _ _ (reNamed "re.Pattern.split" "split" ["string", "maxsplit"] 1 [.str x t] [] >>= _) _ E s
    refine wpAny_bind (wpAny_of_eq (a := [some (.str x t), none]) rfl ?_)
    dsimp only
    refine wpAny_bind (wpAny_pure ?_)
    refine wpAny_bind (wholeTarget_of P ?_)
    have hxx : x.cps.size ≤ 1000000 := hx
    refine wpAny_bind (split_loop (t := { pattern := .ref a, string := .str x t, code := c1, text := x.cps, kind := 0, groups := 1, pos := 0, lim := x.cps.size }) hc1 rfl rfl rfl (by show x.cps.size ≤ _; omega) _ (fun i st => rfl) _ #[] [] 0 0 false s .nil (Nat.zero_le _) (fun h => nomatch h) (fun _ => ?_) fun out' ys st' must n' tk hy heq => ?_)
    · simp only [List.length_range, reMostMatches]
      omega
    · dsimp only
      rw [if_neg (by simp)]
      refine wpAny_bind (slice_of (by omega) fun tk1 tk2 => ?_)
      have hall : StrsAre (out'.push (.str ⟨x.cps.extract st' x.cps.size⟩ tk1)).toList (pieces x) := by
        rw [Array.toList_push]
        have := strsAre_append hy (.cons ⟨x.cps.extract st' x.cps.size⟩ tk1 .nil)
        rw [heq] at this
        exact this
      refine wpAny_bind (wpAny_newObj_type ?_ ?_)
      · exact wpAny_pure ⟨_, rfl, h _ _ hall⟩
      · show (List.toArray _).size ≤ sizeLine
        rw [List.size_toArray, strsAre_length hall, sizeLine_eq]
        have := piecesFrom_len x.cps (x.cps.size + 1) 0
        unfold pieces
        omega
  exact hc code1 rfl P
end
end
section
open PySem PySem.W PySem.Calls PyProof.Rows
section
variable {prog : Program} {w : World} {A : Around} {s : Shared} {env : Env} {h₀ : Heap} {Q : Flow → Shared → Prop}

/-- a turn's end: what the turn leaves -/
def Turned (h₀ : Heap) (L : Addr) (s : Shared) (top : List (Addr × Obj)) (J : (Str → Option Value) → List (Addr × Obj) → Prop) (Q : Flow → Shared → Prop) (f : Flow) (s₂ : Shared) : Prop :=
  match f with
  | .ret v => Q (.ret v) s₂
  | .brk => Q .next s₂
  | _ => ∃ h' tk m₂ news₂, s₂ = { s with heap := h', toks := tk } ∧ Fr h₀ L h' m₂ ∧ News h₀ L h' (top ++ news₂) ∧ (∀ p ∈ top, ∀ q ∈ news₂, q.1 ≠ p.1) ∧ J m₂ news₂
theorem Turned.next {L : Addr} {top : List (Addr × Obj)} {J : (Str → Option Value) → List (Addr × Obj) → Prop} {h' : Heap} {tk : Nat} {m₂ : Str → Option Value} {news₂ : List (Addr × Obj)}
    (F : Fr h₀ L h' m₂) (N : News h₀ L h' (top ++ news₂)) (d : ∀ p ∈ top, ∀ q ∈ news₂, q.1 ≠ p.1) (j : J m₂ news₂) : Turned h₀ L s top J Q .next { s with heap := h', toks := tk } := ⟨h', tk, m₂, news₂, rfl, F, N, d, j⟩
theorem Turned.cont {L : Addr} {top : List (Addr × Obj)} {J : (Str → Option Value) → List (Addr × Obj) → Prop} {h' : Heap} {tk : Nat} {m₂ : Str → Option Value} {news₂ : List (Addr × Obj)}
    (F : Fr h₀ L h' m₂) (N : News h₀ L h' (top ++ news₂)) (d : ∀ p ∈ top, ∀ q ∈ news₂, q.1 ≠ p.1) (j : J m₂ news₂) : Turned h₀ L s top J Q .cont { s with heap := h', toks := tk } := ⟨h', tk, m₂, news₂, rfl, F, N, d, j⟩

theorem for_walks {target : Expr} {body : List Stmt} {I : Addr} {fp : List Addr} {n : Nat} {P : Nat → Value → Prop} {St : Nat → Heap → Prop} {m : Str → Option Value} {news kept : List (Addr × Obj)}
    (J : Nat → (Str → Option Value) → List (Addr × Obj) → Prop) (W : Walks prog w A I fp [I] n P St) (hIf : I ∈ fp)
    (hob : ∀ i h, St i h → ∃ o, h.get? I = some o) (hlet : ∀ i s' v (Q' : Unit → Shared → Prop), St i s'.heap → Q' () s' → wpAny (model prog w) A (letOwnedTupleGo target (.ref I) v) Q' (fun _ _ => False) s')
    (hfp : ∀ b ∈ fp, b = I ∨ (∃ o, h₀.get? b = some o) ∨ ∃ o, (b, o) ∈ kept) (hJk : ∀ i m news, J i m news → ∀ p ∈ kept, p ∈ news)
    (hIL : env.locals ≠ I) (hI0 : h₀.get? I = none) (hIn : ∀ p ∈ news, p.1 ≠ I)
    (hst : St 0 s.heap) (F : Fr h₀ env.locals s.heap m) (N : News h₀ env.locals s.heap news) (h0 : J 0 m news)
    (turn : ∀ i v m₁ news₁ h₁ tk₁ o, i < n → P i v → J i m₁ news₁ → Fr h₀ env.locals h₁ m₁ → News h₀ env.locals h₁ ([(I, o)] ++ news₁) → (∀ p ∈ [(I, o)], ∀ q ∈ news₁, q.1 ≠ p.1) →
      wpAny (model prog w) A (assign target env v) (fun _ s₂ => wpAny (model prog w) A (execs body env) (Turned h₀ env.locals s [(I, o)] (J (i + 1)) Q) (fun _ _ => False) s₂) (fun _ _ => False) { s with heap := h₁, toks := tk₁ })
    (done : ∀ m' news' h' tk, J n m' news' → Fr h₀ env.locals h' m' → News h₀ env.locals h' news' → Q .next { s with heap := h', toks := tk }) :
    codeAny (model prog w) A (.forLoop target (.ref I) body [] env) (fun r s' => match r with | .ok f => Q f s' | .error _ => False) s := by
  have old : ∀ b o, h₀.get? b = some o → b ∉ [I] := fun b o e hb => by
    rw [List.mem_singleton.mp hb, hI0] at e; cases e
  refine codeAny_forLoop_any
    (fun k s' => ∃ h' tk m' news' i, s' = { s with heap := h', toks := tk } ∧ St i h' ∧ Fr h₀ env.locals h' m' ∧ News h₀ env.locals h' news' ∧ (∀ p ∈ news', p.1 ≠ I) ∧ J i m' news' ∧ i ≤ n ∧ k = n + 1 - i) ?_ (n + 1)
    ⟨s.heap, s.toks, m, news, 0, rfl, hst, F, N, hIn, h0, Nat.zero_le _, rfl⟩
  rintro k s' ⟨h', tk, m', news', i, rfl, hst', F', N', hnw', hJ, hi, rfl⟩
  have next : ∀ h₁ : Heap, (∀ b o, b ∉ [I] → h'.get? b = some o → h₁.get? b = some o) → Fr h₀ env.locals h₁ m' ∧ News h₀ env.locals h₁ news' := fun h₁ hk₁ =>
    ⟨⟨F'.ns.at' fun o e => hk₁ _ o (fun q => hIL (List.mem_singleton.mp q)) e, fun b o e => hk₁ b o (old b o e) (F'.keep b o e), F'.above⟩,
     fun p hp => ⟨hk₁ _ _ (fun q => hnw' p hp (List.mem_singleton.mp q)) (N' p hp).1, (N' p hp).2⟩⟩
  by_cases hlt : i < n
  · refine W.item i _ _ _ hlt hst' fun v h₁ tk₁ hP hst₁ hk₁ => ?_
    obtain ⟨F₁, N₁⟩ := next h₁ hk₁
    obtain ⟨o, ho⟩ := hob _ _ hst₁
    have NI : News h₀ env.locals h₁ ([(I, o)] ++ news') := by
      intro p hp
      rcases List.mem_append.mp hp with q | q
      · rw [List.mem_singleton.mp q]; exact ⟨ho, Ne.symm hIL, hI0⟩
      · exact N₁ p q
    refine wpAny_mono (hlet (i + 1) { s with heap := h₁, toks := tk₁ } v (fun _ s' => s' = { s with heap := h₁, toks := tk₁ }) hst₁ rfl) (fun _ s₂ e => ?_) fun _ _ x => x.elim
    subst e
    refine wpAny_mono (turn i v m' news' h₁ tk₁ o hlt hP hJ F₁ NI (fun p hp q hq => by rw [List.mem_singleton.mp hp]; exact hnw' q hq)) (fun _ s₂ h₂ => ?_) fun _ _ x => x.elim
    refine wpAny_mono h₂ (fun f s₃ h₃ => ?_) fun _ _ x => x.elim
    have back : (∃ h' tk m₂ news₂, s₃ = { s with heap := h', toks := tk } ∧ Fr h₀ env.locals h' m₂ ∧ News h₀ env.locals h' ([(I, o)] ++ news₂) ∧ (∀ p ∈ [(I, o)], ∀ q ∈ news₂, q.1 ≠ p.1) ∧ J (i + 1) m₂ news₂) →
        ∃ k, k < n + 1 - i ∧ ∃ h' tk m' news' j, s₃ = { s with heap := h', toks := tk } ∧ St j h' ∧ Fr h₀ env.locals h' m' ∧ News h₀ env.locals h' news' ∧ (∀ p ∈ news', p.1 ≠ I) ∧ J j m' news' ∧ j ≤ n ∧ k = n + 1 - j := by
      rintro ⟨h₃', tk₃, m₂, news₂, rfl, F₃, N₃, hd, hJ₃⟩
      refine ⟨n + 1 - (i + 1), by omega, h₃', tk₃, m₂, news₂, i + 1, rfl, ?_, F₃, fun p hp => N₃ p (List.mem_append_right _ hp), fun p hp => hd (I, o) (List.mem_singleton.mpr rfl) p hp, hJ₃, hlt, rfl⟩
      refine W.frame _ _ _ hst₁ fun b hb o' e => ?_
      rcases hfp b hb with rfl | ⟨o₀, hb0⟩ | ⟨o₀, hk⟩
      · rw [ho] at e; cases e
        exact (N₃ (b, o) (List.mem_append_left _ (List.mem_singleton.mpr rfl))).1
      · have : o₀ = o' := by have := F₁.keep b o₀ hb0; rw [e] at this; exact (Option.some.inj this).symm
        exact this ▸ F₃.keep b o₀ hb0
      · have e1 := (N₁ _ (hJk _ _ _ hJ _ hk)).1
        rw [e] at e1; cases e1
        exact (N₃ _ (List.mem_append_right _ (hJk _ _ _ hJ₃ _ hk))).1
    cases f with
    | ret v => exact h₃
    | brk => exact h₃
    | cont => exact back h₃
    | next => exact back h₃
  · have hin : i = n := by omega
    subst hin
    refine W.done _ _ _ hst' fun h₁ tk₁ hk₁ => wpAny_execs_nil ?_
    obtain ⟨F₁, N₁⟩ := next h₁ hk₁
    exact done m' news' h₁ tk₁ hJ F₁ N₁

/-- where the list lies that a loop goes over -/
def Held (h₀ : Heap) (kept : List (Addr × Obj)) (l : Addr) : Prop := (∃ o, h₀.get? l = some o) ∨ ∃ o, (l, o) ∈ kept

theorem let_name {x : Str} {px : Pos} {it v : Value} {Q' : Unit → Shared → Prop} {E : Value → Shared → Prop} {s' : Shared} (h : Q' () s') : wpAny (model prog w) A (letOwnedTupleGo (.Name x px) it v) Q' E s' := wpAny_pure h
theorem let_iter {target : Expr} {I : Addr} {n : String} {v : Value} {Q' : Unit → Shared → Prop} {E : Value → Shared → Prop} {s' : Shared} {o : Obj} (ho : s'.heap.get? I = some o) (hc : o.cls = .type n)
    (hn : (["enumerate", "zip", "dict_itemiterator", "dict_reverseitemiterator", "odict_iterator", "itertools.zip_longest", "itertools.pairwise"] : List String).contains n = false) (h : Q' () s') :
    wpAny (model prog w) A (letOwnedTupleGo target (.ref I) v) Q' E s' := by
  have key : wpAny (model prog w) A (do
      let (.ref r, .ref a) := ((Value.ref I : Value), v) | return
      let o ← load r
      match o.cls, o.data with
      | .type n, .fields vs =>
        if ["enumerate", "zip", "dict_itemiterator", "dict_reverseitemiterator", "odict_iterator", "itertools.zip_longest", "itertools.pairwise"].contains n && vs[0]? == some (rawInt a) then
          rule "for.unpacks-the-owned-tuple"
          updateField r 0 .none
      | _, _ => pure ()) Q' E s' := by
    cases v with
    | ref a =>
      refine wpAny_bind (wpAny_load ho ?_)
      rw [hc]
      cases o.data with
      | fields vs =>
        show wpAny _ _ (if (List.contains _ n && _) = true then _ else _) _ _ _
        rw [hn, Bool.false_and, if_neg (by simp)]
        exact wpAny_pure h
      | _ => exact wpAny_pure h
    | _ => exact wpAny_pure h
  cases target <;> first | exact wpAny_pure h | exact key

theorem For_list {target iter : Expr} {body : List Stmt} {pos : Pos} {items : Array Value} {kept : List (Addr × Obj)} (J : Nat → (Str → Option Value) → List (Addr × Obj) → Prop) (hh : A.handled = none)
    (hJk : ∀ i m news, J i m news → ∀ p ∈ kept, p ∈ news)
    (hiter : wpAny (model prog w) A (eval iter env) (fun x s₁ => ∃ l h₁ tk m news, x = .ref l ∧ s₁ = { s with heap := h₁, toks := tk } ∧ Fr h₀ env.locals h₁ m ∧ News h₀ env.locals h₁ news ∧ h₁.IsList l items ∧ Held h₀ kept l ∧ J 0 m news) (fun _ _ => False) s)
    (turn : ∀ i v m₁ news₁ h₁ tk₁ I o, items[i]? = some v → J i m₁ news₁ → Fr h₀ env.locals h₁ m₁ → News h₀ env.locals h₁ ([(I, o)] ++ news₁) → (∀ p ∈ [(I, o)], ∀ q ∈ news₁, q.1 ≠ p.1) →
      wpAny (model prog w) A (assign target env v) (fun _ s₂ => wpAny (model prog w) A (execs body env) (Turned h₀ env.locals s [(I, o)] (J (i + 1)) Q) (fun _ _ => False) s₂) (fun _ _ => False) { s with heap := h₁, toks := tk₁ })
    (done : ∀ m' news' h' tk, J items.size m' news' → Fr h₀ env.locals h' m' → News h₀ env.locals h' news' → Q .next { s with heap := h', toks := tk })
    (hs : ∀ x, foldedSetIterable iter env x = pure x := by intro _; rfl) :
    wpAny (model prog w) A (exec (.For target iter body [] pos) env) Q (fun _ _ => False) s := by
  refine wpAny_For (wpAny_mono hiter (fun x s₁ hx => ?_) fun _ _ x => x.elim) hs
  obtain ⟨l, h₁, tk, m, news, rfl, rfl, F, N, hl, hld, h0⟩ := hx
  refine wpAny_pyIter_list hl ?_
  obtain ⟨ol, hol, hlr⟩ := id hl
  have hne : l ≠ h₁.objs.size := Nat.ne_of_lt (Heap.lt_size hol)
  refine codeAny_mono (for_walks (s := { s with heap := h₁.push _, toks := tk }) (news := news) (kept := kept) (n := items.size) (h₀ := h₀) (Q := Q) J (Walks.list hh h₁.objs.size l hne items) (List.mem_cons_self ..) (fun i h st => ?_) (fun i s' v Q' st hq => ?_) ?_ hJk (Nat.ne_of_lt F.ns.lt) (next_is_new F)
    (fun p hp => Nat.ne_of_lt (Heap.lt_size (N p hp).1)) ⟨⟨_, Heap.get?_push_size _ rfl, rfl, rfl⟩, hl.at fun o e => Heap.get?_push_of_some _ e⟩ (F.push _) (fun p hp => ⟨Heap.get?_push_of_some _ (N p hp).1, (N p hp).2⟩) h0 ?_ ?_) ?_
  · obtain ⟨⟨o, ho, _⟩, _⟩ := st; exact ⟨o, ho⟩
  · obtain ⟨⟨o, ho, hc, _⟩, _⟩ := st; exact let_iter ho hc (by decide) hq
  · intro b hb
    rcases List.mem_cons.mp hb with rfl | hb
    · exact .inl rfl
    · exact .inr ((List.mem_singleton.mp hb) ▸ hld)
  · exact fun i v m₁ news₁ h₁ tk₁ o _ hP hJ F N d => turn i v m₁ news₁ h₁ tk₁ _ o hP hJ F N d
  · exact fun m' news' h' tk hJ F N => done m' news' h' tk hJ F N
  · intro r s' hr
    cases r with
    | ok f => exact hr
    | error e => exact hr.elim

theorem For_range {target iter : Expr} {body : List Stmt} {pos : Pos} {a b c : Int} {n : Nat} (J : Nat → (Str → Option Value) → List (Addr × Obj) → Prop) (hh : A.handled = none)
    (hsmall : Builtin.Range.small a b c = true) (hn : Builtin.Range.rangeSize a b c = n)
    (hiter : wpAny (model prog w) A (eval iter env) (fun x s₁ => ∃ l h₁ tk m news t u v, x = .ref l ∧ s₁ = { s with heap := h₁, toks := tk } ∧ Fr h₀ env.locals h₁ m ∧ News h₀ env.locals h₁ news ∧ IsRange h₁ l a b c t u v ∧ J 0 m news) (fun _ _ => False) s)
    (turn : ∀ i t m₁ news₁ h₁ tk₁ I o, i < n → J i m₁ news₁ → Fr h₀ env.locals h₁ m₁ → News h₀ env.locals h₁ ([(I, o)] ++ news₁) → (∀ p ∈ [(I, o)], ∀ q ∈ news₁, q.1 ≠ p.1) →
      wpAny (model prog w) A (assign target env (.int (a + i * c) t)) (fun _ s₂ => wpAny (model prog w) A (execs body env) (Turned h₀ env.locals s [(I, o)] (J (i + 1)) Q) (fun _ _ => False) s₂) (fun _ _ => False) { s with heap := h₁, toks := tk₁ })
    (done : ∀ m' news' h' tk, J n m' news' → Fr h₀ env.locals h' m' → News h₀ env.locals h' news' → Q .next { s with heap := h', toks := tk })
    (hs : ∀ x, foldedSetIterable iter env x = pure x := by intro _; rfl) :
    wpAny (model prog w) A (exec (.For target iter body [] pos) env) Q (fun _ _ => False) s := by
  refine wpAny_For (wpAny_mono hiter (fun x s₁ hx => ?_) fun _ _ x => x.elim) hs
  obtain ⟨l, h₁, tk, m, news, t, u, v, rfl, rfl, F, N, hr, h0⟩ := hx
  refine wpAny_pyIter_range hr hsmall ?_
  refine codeAny_mono (for_walks (s := { s with heap := h₁.push _, toks := tk }) (news := news) (kept := []) (n := n) (h₀ := h₀) (Q := Q) J (Walks.range hh h₁.objs.size a c n) (List.mem_singleton.mpr rfl) (fun i h st => ⟨_, st⟩) (fun i s' v Q' st hq => let_iter st rfl (by decide) hq) (fun b hb => .inl (List.mem_singleton.mp hb)) (fun _ _ _ _ p hp => (nomatch hp)) (Nat.ne_of_lt F.ns.lt) (next_is_new F)
    (fun p hp => Nat.ne_of_lt (Heap.lt_size (N p hp).1)) ?_ (F.push _) (fun p hp => ⟨Heap.get?_push_of_some _ (N p hp).1, (N p hp).2⟩) h0 ?_ ?_) ?_
  · show IsRangeIter _ _ _ _ _
    rw [hn]
    simpa using Heap.get?_push_size _ rfl
  · rintro i v m₁ news₁ h₁ tk₁ o hi ⟨t, rfl⟩ hJ F N d
    exact turn i t m₁ news₁ h₁ tk₁ _ o hi hJ F N d
  · exact fun m' news' h' tk hJ F N => done m' news' h' tk hJ F N
  · intro r s' hr
    cases r with
    | ok f => exact hr
    | error e => exact hr.elim
end
end
section
open PySem PySem.W PySem.Calls PyProof.Rows
/-! the plain words of the paragraph -/
def nl : Str := Str.ofString "\n"
def blank : Str := Str.ofString " "
def expGo : List Nat → Nat → List Nat
  | [], _ => []
  | c :: r, col => if c == 9 then List.replicate (8 - col % 8) 32 ++ expGo r (col + (8 - col % 8)) else c :: expGo r (if c == 10 || c == 13 then 0 else col + 1)
def expand (x : Str) : Str := ⟨(expGo x.cps.toList 0).toArray⟩
theorem expGo_length : ∀ (l : List Nat) (col : Nat), (expGo l col).length ≤ 8 * l.length
  | [], _ => Nat.zero_le _
  | c :: r, col => by
    unfold expGo
    have h1 := expGo_length r (col + (8 - col % 8))
    have h2 := expGo_length r (if c == 10 || c == 13 then 0 else col + 1)
    split
    · rw [List.length_append, List.length_replicate, List.length_cons]; omega
    · rw [List.length_cons, List.length_cons]; omega
theorem expGo_noTab : ∀ (l : List Nat) (col : Nat), 9 ∉ l → expGo l col = l
  | [], _, _ => rfl
  | c :: r, col, h => by
    unfold expGo
    have hc : (c == 9) = false := by
      rw [beq_eq_false_iff_ne]
      intro e; exact h (by rw [e]; exact List.mem_cons_self ..)
    rw [hc, if_neg (by simp), expGo_noTab r _ fun q => h (List.mem_cons_of_mem _ q)]
theorem expand_noTab {x : Str} (h : x.cps.contains 9 = false) : expand x = x := by
  unfold expand
  rw [expGo_noTab _ _ (by
    intro q
    have : x.cps.contains 9 = true := by simpa using q
    rw [h] at this; cases this)]
theorem expand_length (x : Str) : (expand x).length ≤ 8 * x.length := by
  have := expGo_length x.cps.toList 0
  show (expGo x.cps.toList 0).toArray.size ≤ 8 * x.cps.size
  simpa using this

section
variable {prog : Program} {w : World} {A : Around} {E : Value → Shared → Prop} {s : Shared}
theorem exp_loop {Q : Array Nat × Nat → Shared → Prop} {M' : Model} (f : Nat → Array Nat × Nat → Sem (ForInStep (Array Nat × Nat)))
    (hf : ∀ c st, f c st = (if (c == 9) = true then
        (if Builtin.Str.tooLong (st.1.size + (if (8 : Int) > 0 then (8 : Int).toNat - st.2 % (8 : Int).toNat else 0)) = true then (do (Sem.unsupported "str.expandtabs:memory" : Sem PUnit); pure (ForInStep.yield (st.1 ++ Array.replicate (if (8 : Int) > 0 then (8 : Int).toNat - st.2 % (8 : Int).toNat else 0) 32, st.2 + (if (8 : Int) > 0 then (8 : Int).toNat - st.2 % (8 : Int).toNat else 0))))
         else pure (ForInStep.yield (st.1 ++ Array.replicate (if (8 : Int) > 0 then (8 : Int).toNat - st.2 % (8 : Int).toNat else 0) 32, st.2 + (if (8 : Int) > 0 then (8 : Int).toNat - st.2 % (8 : Int).toNat else 0))))
      else pure (ForInStep.yield (st.1.push c, if (c == 10 || c == 13) = true then 0 else st.2 + 1)))) :
    ∀ (l : List Nat) (out : Array Nat) (col : Nat), out.size + 8 * l.length ≤ 16777216 → (∀ col', Q ((out.toList ++ expGo l col).toArray, col') s) → wpAny M' A (forIn l (out, col) f) Q E s
  | [], out, col, _, h => by
    rw [List.forIn_nil]
    have := h col
    rw [show (out.toList ++ expGo [] col).toArray = out by simp [expGo]] at this
    exact wpAny_pure this
  | c :: r, out, col, hs, h => by
    rw [List.forIn_cons, hf]
    refine wpAny_bind ?_
    rw [List.length_cons] at hs
    by_cases hc : (c == 9) = true
    · rw [if_pos hc]
      have e : (if (8 : Int) > 0 then (8 : Int).toNat - col % (8 : Int).toNat else 0) = 8 - col % 8 := rfl
      dsimp only
      rw [e]
      have ht : Builtin.Str.tooLong (out.size + (8 - col % 8)) = false := by
        unfold Builtin.Str.tooLong
        have e2 : sizeLine = 16777216 := sizeLine_eq
        simp only [decide_eq_false_iff_not]
        rw [e2]
        omega
      rw [ht, if_neg (by simp)]
      refine wpAny_pure (exp_loop f hf r _ _ ?_ fun col' => ?_)
      · simp only [Array.size_append, Array.size_replicate]; omega
      · have := h col'
        unfold expGo at this
        rw [if_pos hc] at this
        simpa [List.append_assoc] using this
    · rw [if_neg hc]
      refine wpAny_pure (exp_loop f hf r _ _ ?_ fun col' => ?_)
      · simp only [Array.size_push]; omega
      · have := h col'
        unfold expGo at this
        rw [if_neg hc] at this
        simpa [List.append_assoc] using this
theorem call_expandtabs {x : Str} {t : Tok} {Q : Value → Shared → Prop} (hx : 8 * x.length ≤ 16777216) (h : ∀ t' k, Q (.str (expand x) t') { s with toks := k }) :
    wpAny (model prog w) A (call (.builtin "str.expandtabs") [.str x t]) Q E s := by
  refine wpAny_call (codeAny_call_builtin F.slot_str_expandtabs.plain F.entry_str_expandtabs (F.slot_str_expandtabs.check _ _ _ _ _ _ _ _ (typeIs_str _ _ _) (F.args_str_expandtabs_1 _) ?_))
  unfold Builtin.«str.expandtabs»
  refine wpAny_bind (m := Builtin.Str.strSelf _) (wpAny_pure ?_)
  refine wpAny_bind (wpAny_of_eq (a := [none]) rfl ?_)
  dsimp only
  refine wpAny_bind (wpAny_pure ?_)
  rw [if_neg (by decide)]
  cases hc : x.cps.contains 9 with
  | false =>
    rw [if_pos (by simp [hc])]
    refine wpAny_bind (wpAny_rule ?_)
    refine wpAny_bind (m := Builtin.Str.strUnchanged _ _) (wpAny_pure ?_)
    have := h t s.toks
    rw [expand_noTab hc] at this
    exact wpAny_pure this
  | true =>
    rw [if_neg (by simp [hc])]
    have hxx : 8 * x.cps.size ≤ 16777216 := hx
    refine wpAny_bind ?_
    rw [← Array.forIn_toList]
    refine exp_loop _ (fun c st => ?_) x.cps.toList #[] 0 (by simpa using hxx) fun col' => ?_
    · rfl
    · dsimp only
      have hl : (expand x).length ≤ sizeLine := by rw [sizeLine_eq]; have := expand_length x; omega
      refine wpAny_bind ?_
      have := h s.toks (s.toks + 1)
      unfold expand at this hl
      exact wpAny_mkStr (wpAny_pure (by simpa using this)) (by simpa using hl)
end

/-- the words of a line as re.split gives them, and whether two blanks are to stand behind -/
def wordsOf : List Str → List (Str × Bool)
  | [] => []
  | [w] => [(w, false)]
  | w :: s :: r => (w, s != blank) :: wordsOf r
def wordStep (lim : Int) (i1 i2 : Str) (st : List Str × Str) (w : Str × Bool) : List Str × Str :=
  if w.1.length = 0 then st else
  let st := if ((expand (st.2 ++ w.1)).length : Int) > lim ∧ st.2 ≠ i1 then (st.1 ++ [Txt.rstrip st.2], i2) else st
  (st.1, if w.2 then st.2 ++ w.1 ++ blank ++ blank else st.2 ++ w.1 ++ blank)
def lineStep (lim : Int) (i1 i2 : Str) (st : List Str × Str) (x : Str) : List Str × Str := (wordsOf (pieces x)).foldl (wordStep lim i1 i2) st
/-- how many white lines stand first -/
def whites (ls : List Str) : Nat := (ls.takeWhile white).length
/-- the run of lines that are not white -/
def runOf (ls : List Str) : List Str := (ls.drop (whites ls)).takeWhile fun y => !white y
def ind2 (i1 : Str) : List Str → Str
  | [] => i1
  | z :: _ => indent z
def paraLines (ls : List Str) (lim : Int) : List Str :=
  match runOf ls with
  | [] => ls
  | y :: r =>
    let i1 := indent y
    let i2 := ind2 i1 r
    let st := (y :: r).foldl (lineStep lim i1 i2) (ls.take (whites ls), i1)
    st.1 ++ [Txt.rstrip st.2] ++ ls.drop (whites ls + (y :: r).length)
def para (x : Str) (lim : Int) : Str := if whites (Txt.split x nl) < (Txt.split x nl).length then Txt.join nl (paraLines (Txt.split x nl) lim) else x
end
section
open PySem PySem.W PySem.Calls PyProof.Rows
/-! how long the paragraph's texts may get -/
def lens (l : List Str) : Nat := (l.map (·.length)).sum
theorem lens_nil : lens [] = 0 := rfl
theorem lens_cons (a : Str) (l : List Str) : lens (a :: l) = a.length + lens l := by unfold lens; rw [List.map_cons, List.sum_cons]
theorem lens_append (l k : List Str) : lens (l ++ k) = lens l + lens k := by unfold lens; rw [List.map_append, List.sum_append]
def wsum (l : List (Str × Bool)) : Nat := lens (l.map (·.1))
theorem wsum_cons (a : Str × Bool) (l : List (Str × Bool)) : wsum (a :: l) = a.1.length + wsum l := by unfold wsum; rw [List.map_cons, lens_cons]
theorem extract_len (t : Array Nat) (a b : Nat) : (⟨t.extract a b⟩ : Str).length = min b t.size - a := by
  show (t.extract a b).size = _
  rw [Array.size_extract]
theorem piecesFrom_lens (t : Array Nat) : ∀ f st, st ≤ t.size → lens (piecesFrom t f st) = t.size - st
  | 0, st, h => by
    unfold piecesFrom
    rw [lens_cons, lens_nil, extract_len]; omega
  | f + 1, st, h => by
    unfold piecesFrom
    split
    · rw [lens_cons, lens_nil, extract_len]; omega
    · have h1 := spFrom_le t st h
      have h2 := spTo_le t _ h1
      have h3 := spFrom_ge t st
      have h4 : spFrom t st ≤ spTo t (spFrom t st) := by unfold spTo; omega
      rw [lens_cons, lens_cons, extract_len, extract_len, piecesFrom_lens t f _ h2]; omega
theorem pieces_lens (x : Str) : lens (pieces x) = x.length := by unfold pieces; rw [piecesFrom_lens _ _ _ (Nat.zero_le _)]; rfl
theorem words_le : ∀ ps : List Str, wsum (wordsOf ps) ≤ lens ps
  | [] => Nat.le_refl _
  | [a] => by unfold wordsOf; rw [wsum_cons, lens_cons]; exact Nat.le_refl _
  | a :: b :: r => by
    unfold wordsOf
    rw [wsum_cons, lens_cons, lens_cons]
    have := words_le r
    dsimp only
    omega
theorem words_len : ∀ ps : List Str, (wordsOf ps).length = (ps.length + 1) / 2
  | [] => rfl
  | [a] => by unfold wordsOf; simp
  | a :: b :: r => by unfold wordsOf; rw [List.length_cons, words_len r, List.length_cons, List.length_cons]; omega
theorem words_get : ∀ (ps : List Str) (q : Nat), 2 * q < ps.length → (wordsOf ps)[q]? = some (ps.getD (2 * q) Str.empty, decide (2 * q + 1 < ps.length) && (ps.getD (2 * q + 1) Str.empty != blank))
  | [a], 0, _ => rfl
  | [a], q + 1, h => by rw [List.length_singleton] at h; omega
  | a :: b :: r, 0, _ => by
    show some (a, b != blank) = some (a, decide (1 < (a :: b :: r).length) && (b != blank))
    rw [show decide (1 < (a :: b :: r).length) = true by rw [decide_eq_true_eq, List.length_cons, List.length_cons]; omega, Bool.true_and]
  | a :: b :: r, q + 1, h => by
    rw [List.length_cons, List.length_cons] at h
    have := words_get r q (by omega)
    unfold wordsOf
    rw [List.getElem?_cons_succ, this, show 2 * (q + 1) = 2 * q + 1 + 1 from by omega, List.length_cons, List.length_cons]
    have e : decide (2 * q + 1 + 1 + 1 < r.length + 1 + 1) = decide (2 * q + 1 < r.length) := by
      by_cases hh : 2 * q + 1 < r.length
      · rw [decide_eq_true hh, decide_eq_true (by omega)]
      · rw [decide_eq_false hh, decide_eq_false (by omega)]
    rw [e]
    simp
theorem str_append_len (x y : Str) : (x ++ y).length = x.length + y.length := by
  show (x.cps ++ y.cps).size = _
  rw [Array.size_append]; rfl
def pot (st : List Str × Str) : Nat := lens st.1 + st.1.length + st.2.length
theorem wordStep_pot {lim : Int} {i1 i2 : Str} (h2 : i2.length ≤ 600) (st : List Str × Str) (w : Str × Bool) : pot (wordStep lim i1 i2 st w) ≤ pot st + 604 * w.1.length := by
  unfold wordStep
  split
  · omega
  · have hl : ∀ (b : Bool) (p : Str), (if b = true then p ++ w.1 ++ blank ++ blank else p ++ w.1 ++ blank).length ≤ p.length + w.1.length + 2 := by
      intro b p
      have hb : blank.length = 1 := rfl
      cases b <;> simp only [str_append_len, hb, if_true, if_false, Bool.false_eq_true] <;> omega
    have hr := len_rstrip st.2
    dsimp only
    split <;> rename_i hc <;> unfold pot <;> dsimp only <;> have q1 := hl w.2 st.2 <;> have q2 := hl w.2 i2
    · rw [lens_append, List.length_append, lens_cons, lens_nil, List.length_singleton]
      omega
    · omega
theorem words_pot {lim : Int} {i1 i2 : Str} (h2 : i2.length ≤ 600) : ∀ (l : List (Str × Bool)) (st : List Str × Str), pot (l.foldl (wordStep lim i1 i2) st) ≤ pot st + 604 * wsum l
  | [], st => by simp [wsum, lens]
  | a :: r, st => by
    rw [List.foldl_cons, wsum_cons]
    have := words_pot (lim := lim) (i1 := i1) h2 r (wordStep lim i1 i2 st a)
    have := wordStep_pot (lim := lim) (i1 := i1) h2 st a
    omega
theorem line_pot {lim : Int} {i1 i2 : Str} (h2 : i2.length ≤ 600) (st : List Str × Str) (x : Str) : pot (lineStep lim i1 i2 st x) ≤ pot st + 604 * x.length := by
  unfold lineStep
  have := words_pot (lim := lim) (i1 := i1) h2 (wordsOf (pieces x)) st
  have := words_le (pieces x)
  rw [pieces_lens] at this
  omega
theorem wsum_take (l : List (Str × Bool)) (q : Nat) : wsum (l.take q) + wsum (l.drop q) = wsum l := by
  unfold wsum
  rw [← lens_append, ← List.map_append, List.take_append_drop]
theorem take_pot {lim : Int} {i1 i2 : Str} (h2 : i2.length ≤ 600) (st : List Str × Str) (x : Str) (q : Nat) : pot (((wordsOf (pieces x)).take q).foldl (wordStep lim i1 i2) st) ≤ pot st + 604 * x.length := by
  have := words_pot (lim := lim) (i1 := i1) h2 ((wordsOf (pieces x)).take q) st
  have := words_le (pieces x)
  rw [pieces_lens] at this
  have := wsum_take (wordsOf (pieces x)) q
  omega
theorem fold_take {α β : Type} (f : α → β → α) (a : α) (l : List β) (q : Nat) {b : β} (h : l[q]? = some b) : (l.take (q + 1)).foldl f a = f ((l.take q).foldl f a) b := by
  rw [List.take_add_one, h, List.foldl_append]; rfl
theorem str_one : (Str.ofString " ").length = 1 := rfl
end
section
open PySem PySem.W PySem.Calls PyProof.Rows
/-! the paragraph, by where its run stands -/
theorem takeWhile_is {α : Type} {p : α → Bool} {d : α} : ∀ (l : List α) (n : Nat), n ≤ l.length → (∀ j, j < n → p (l.getD j d) = true) → (n < l.length → p (l.getD n d) = false) → l.takeWhile p = l.take n
  | [], n, _, _, _ => by rw [List.take_nil]; rfl
  | a :: l, 0, _, _, h => by
    have := h (Nat.succ_pos _)
    rw [List.take_zero, List.takeWhile_cons, if_neg]
    have e : (a :: l).getD 0 d = a := rfl
    rw [e] at this
    rw [this]; exact Bool.false_ne_true
  | a :: l, n + 1, hn, hj, h => by
    have e : ∀ j, (a :: l).getD (j + 1) d = l.getD j d := fun _ => rfl
    have h0 := hj 0 (Nat.succ_pos _)
    have e0 : (a :: l).getD 0 d = a := rfl
    rw [e0] at h0
    rw [List.take_succ_cons, List.takeWhile_cons, if_pos h0, takeWhile_is l n (by rw [List.length_cons] at hn; omega) (fun j hj' => by have := hj (j + 1) (by omega); rw [e] at this; exact this)
      (fun hl => by have := h (by rw [List.length_cons]; omega); rw [e] at this; exact this)]
theorem getD_drop {α : Type} {d : α} (l : List α) (i j : Nat) : (l.drop i).getD j d = l.getD (i + j) d := by
  rw [List.getD_eq_getElem?_getD, List.getD_eq_getElem?_getD, List.getElem?_drop]
theorem drop_take_cons {α : Type} {d : α} (l : List α) (i k : Nat) (h : i < l.length) (hk : i < k) : (l.drop i).take (k - i) = l.getD i d :: (l.drop (i + 1)).take (k - (i + 1)) := by
  rw [List.drop_eq_getElem_cons h, show k - i = (k - (i + 1)) + 1 by omega, List.take_succ_cons, List.getD_eq_getElem?_getD, List.getElem?_eq_getElem h]; rfl
theorem para_white {x : Str} {lim : Int} {xs : List Str} (hx : Txt.split x nl = xs) (h : ∀ j, j < xs.length → white (xs.getD j Str.empty) = true) : para x lim = x := by
  unfold para
  rw [hx]
  have e : whites xs = xs.length := by
    unfold whites
    rw [takeWhile_is (d := Str.empty) xs xs.length (Nat.le_refl _) h (fun hl => absurd hl (Nat.lt_irrefl _)), List.take_length]
  rw [e, if_neg (Nat.lt_irrefl _)]
theorem para_is {x : Str} {lim : Int} {xs : List Str} {i k : Nat} {i1 i2 : Str} (hx : Txt.split x nl = xs) (hi : i < xs.length) (hw : ∀ j, j < i → white (xs.getD j Str.empty) = true) (hwi : white (xs.getD i Str.empty) = false)
    (hik : i ≤ k) (hk : k ≤ xs.length) (hnw : ∀ q, i ≤ q → q < k → white (xs.getD q Str.empty) = false) (hwk : k < xs.length → white (xs.getD k Str.empty) = true)
    (h1 : i1 = indent (xs.getD i Str.empty)) (h2 : i2 = if i + 1 < xs.length ∧ white (xs.getD (i + 1) Str.empty) = false then indent (xs.getD (i + 1) Str.empty) else i1) {st : List Str × Str}
    (hst : st = ((xs.drop i).take (k - i)).foldl (lineStep lim i1 i2) (xs.take i, i1)) : para x lim = Txt.join nl (st.1 ++ [Txt.rstrip st.2] ++ xs.drop k) := by
  have hne : i ≠ k := fun e => by subst e; rw [hwk hi] at hwi; cases hwi
  have hlt : i < k := by omega
  have ew : whites xs = i := by
    unfold whites
    rw [takeWhile_is (d := Str.empty) xs i (Nat.le_of_lt hi) hw (fun _ => hwi), List.length_take]; omega
  have er : runOf xs = (xs.drop i).take (k - i) := by
    unfold runOf
    rw [ew]
    refine takeWhile_is (d := Str.empty) _ _ (by rw [List.length_drop]; omega) (fun j hj => ?_) (fun hl => ?_)
    · rw [getD_drop, hnw (i + j) (by omega) (by omega)]; rfl
    · rw [List.length_drop] at hl
      rw [getD_drop, show i + (k - i) = k by omega, hwk (by omega)]; rfl
  unfold para
  rw [hx, ew, if_pos hi]
  unfold paraLines
  rw [er, ew]
  have ec := drop_take_cons (d := Str.empty) xs i k hi hlt
  have ei2 : ind2 i1 ((xs.drop (i + 1)).take (k - (i + 1))) = i2 := by
    by_cases hk2 : i + 1 < k
    · rw [drop_take_cons (d := Str.empty) xs (i + 1) k (by omega) hk2, h2, if_pos ⟨by omega, hnw (i + 1) (by omega) hk2⟩]; rfl
    · have e3 : k - (i + 1) = 0 := by omega
      rw [e3, List.take_zero, h2, if_neg]
      · rfl
      rintro ⟨ha, hb⟩
      rw [show i + 1 = k by omega] at ha hb
      rw [hwk ha] at hb; cases hb
  have el : i + (xs.getD i Str.empty :: (xs.drop (i + 1)).take (k - (i + 1))).length = k := by
    rw [← ec, List.length_take, List.length_drop]; omega
  rw [ec]
  dsimp only
  rw [← h1, ei2, el, ← ec, ← hst]
theorem lens_take (l : List Str) (n : Nat) : lens (l.take n) ≤ lens l := by
  have := lens_append (l.take n) (l.drop n)
  rw [List.take_append_drop] at this; omega
theorem lens_drop (l : List Str) (n : Nat) : lens (l.drop n) ≤ lens l := by
  have := lens_append (l.take n) (l.drop n)
  rw [List.take_append_drop] at this; omega
theorem lines_pot {lim : Int} {i1 i2 : Str} (h2 : i2.length ≤ 600) : ∀ (l : List Str) (st : List Str × Str), pot (l.foldl (lineStep lim i1 i2) st) ≤ pot st + 604 * lens l
  | [], st => by rw [lens_nil]; exact Nat.le_refl _
  | a :: r, st => by
    rw [List.foldl_cons, lens_cons]
    have := lines_pot (lim := lim) (i1 := i1) h2 r (lineStep lim i1 i2 st a)
    have := line_pot (lim := lim) (i1 := i1) h2 st a
    omega
theorem indent_len (x : Str) : (indent x).length ≤ x.length := by
  unfold indent
  rw [extract_len]
  have : x.cps.size = x.length := rfl
  omega
theorem run_pot {x : Str} {xs : List Str} {lim : Int} {i1 i2 : Str} {i n : Nat} (hx : Txt.split x nl = xs) (hl : x.length ≤ 600) (h1 : i1.length ≤ 600) (h2 : i2.length ≤ 600) : pot (((xs.drop i).take n).foldl (lineStep lim i1 i2) (xs.take i, i1)) ≤ 370000 := by
  have hw := split_weight x nl (Nat.le_refl 1)
  rw [hx] at hw
  have hw' : lens xs + xs.length ≤ x.length + 1 := hw
  have := lines_pot (lim := lim) (i1 := i1) h2 ((xs.drop i).take n) (xs.take i, i1)
  have h3 := lens_take (xs.drop i) n
  have h4 := lens_drop xs i
  have h5 := lens_take xs i
  have h6 : (xs.take i).length ≤ xs.length := by rw [List.length_take]; omega
  unfold pot at this ⊢
  dsimp only at this
  omega
theorem words_step {lim : Int} {i1 i2 : Str} {st : List Str × Str} {Y y : Str} {q : Nat} (hq : 2 * q < (pieces Y).length) (hy : y = (pieces Y).getD (2 * q) Str.empty) :
    ((wordsOf (pieces Y)).take (q + 1)).foldl (wordStep lim i1 i2) st = wordStep lim i1 i2 (((wordsOf (pieces Y)).take q).foldl (wordStep lim i1 i2) st) (y, decide (2 * q + 1 < (pieces Y).length) && ((pieces Y).getD (2 * q + 1) Str.empty != blank)) := by
  rw [hy]; exact fold_take _ _ _ _ (words_get _ _ hq)
theorem piece_len {Y : Str} (i : Nat) : ((pieces Y).getD i Str.empty).length ≤ Y.length := by
  by_cases hi : i < (pieces Y).length
  · rw [List.getD_eq_getElem?_getD, List.getElem?_eq_getElem hi]
    have h1 : ∀ (l : List Str) (a : Str), a ∈ l → a.length ≤ lens l := by
      intro l a ha
      induction l with
      | nil => cases ha
      | cons b r ih =>
        rw [lens_cons]
        rcases List.mem_cons.mp ha with rfl | h
        · omega
        · have := ih h; omega
    have := h1 _ _ (List.getElem_mem hi)
    rw [pieces_lens] at this
    exact this
  · rw [List.getD_eq_getElem?_getD, List.getElem?_eq_none (Nat.le_of_not_lt hi)]; exact Nat.zero_le _
end
section
open PySem PySem.W PySem.Calls PyProof.Rows
set_option maxHeartbeats 8000000 in
open_top hd for PySem.Challenge.rw_sc0019_01
end
section
open PySem PySem.W PySem.Calls PyProof.Rows
abbrev TR (mg mb : Str → Option Value) (h : Heap) : Prop := TopRead hd.view_39 (looseW hd.view_39 [Str.ofString "_twin_re_1", Str.ofString "_twin_re_2", Str.ofString "_twin_re_3"]) mg mb h

/-- the names of a frame, written out -/
def mp (l : List (Str × Value)) : Str → Option Value := fun y => l.lookup y
theorem mp_set {l : List (Str × Value)} {x : Str} {v : Value} : (fun y => if y = x then some v else mp l y) = mp ((x, v) :: l) := by
  funext y
  unfold mp
  rw [List.lookup_cons]
  by_cases h : y = x
  · subst h; simp
  · have : (y == x) = false := by simp [h]
    rw [if_neg h, this]

/-- entering a def of the text: the objects `news` are handed to it as its own -/
theorem enter {w : World} {A : Around} {s : Shared} {mg mb : Str → Option Value} {news : List (Addr × Obj)} {K : Frag} {R : Result → Shared → Prop}
    {name qual : Str} {params : Arguments} {body : List Stmt} {scope : Scope} {dV kV doc pm cdv ct oc : Value} {an od : Option Addr} {osl : Array (Option Value)} {f : Addr} {args : Args} {binds : List (Str × Value)}
    (X : K.In s.heap) (T : TR mg mb s.heap) (hN : ∀ p ∈ news, s.heap.get? p.1 = some p.2)
    (ho : K.lookup f = some ⟨oc, od, .func (fnOf name qual params body scope dV kV doc pm an cdv ct), osl⟩) (hcd : codeIn K cdv qual = true) (hroom : A.depth < recursionLimit)
    (hbind : BindsTo s (fnOf name qual params body scope dV kV doc pm an cdv ct) args binds) (hloc : ∀ y ∈ binds, scope.names.lookup y.1 = some .local)
    (h : ∀ L h₁, Fr (hideAll s.heap (news.map (·.1))) L h₁ (fun y => binds.reverse.lookup y) → News (hideAll s.heap (news.map (·.1))) L h₁ news →
      wpAny (model PySem.Challenge.rw_sc0019_01.prog w) (A.deeper (envOf qual scope L f cdv)) (execs body (envOf qual scope L f cdv))
        (fun fl s' => R (.ok (.ret (match fl with | .ret v => v | _ => .none))) s') (fun _ _ => False)
        { s with heap := h₁, toks := s.toks + binds.length })
    (hco : scope.isCoroutine = false := by rfl) (hgen : scope.isGenerator = false := by rfl) (hk : scope.kind = .function := by rfl)
    (hcell : ∀ x ∈ scope.names, x.2 ≠ .cell := by decide) : codeAny (model PySem.Challenge.rw_sc0019_01.prog w) A (.call (.ref f) args) R s := by
  refine codeAny_call_def (fd := fnOf name qual params body scope dV kV doc pm an cdv ct) (body := body) (binds := binds) hroom (X _ _ ho) rfl T.nolimit (codeRec_of X hcd) rfl hbind hcell hloc (fun h₁ hns hk₁ => ?_) hco hgen hk
  refine wpAny_mono (h s.heap.objs.size h₁ ⟨hns, fun b o e => hk₁ b o (of_hideAll _ e), Nat.le_of_eq (hideAll_size _ _)⟩
    (fun p hp => ⟨hk₁ _ _ (hN p hp), Nat.ne_of_lt (Heap.lt_size (hN p hp)), hideAll_none _ (List.mem_map_of_mem hp)⟩)) (fun fl s' hl => hl) fun _ _ y => y.elim

theorem pat1_of {w : World} {h : Heap} (X : (hd.heap_39 w.params).In h) : IsPat h 36 code1 1 := ⟨⟨_, _, _, _, _, _, _, X 36 _ rfl, rfl, rfl, rfl, X 35 _ rfl, rfl, by decide +kernel⟩⟩
theorem pat2_of {w : World} {h : Heap} (X : (hd.heap_39 w.params).In h) : IsPat h 41 code2 0 := ⟨⟨_, _, _, _, _, _, _, X 41 _ rfl, rfl, rfl, rfl, X 40 _ rfl, rfl, by decide +kernel⟩⟩
theorem pat3_of {w : World} {h : Heap} (X : (hd.heap_39 w.params).In h) : IsPat h 46 code3 1 := ⟨⟨_, _, _, _, _, _, _, X 46 _ rfl, rfl, rfl, rfl, X 45 _ rfl, rfl, by decide +kernel⟩⟩

section
variable {w : World} {A : Around} {E : Value → Shared → Prop} {s : Shared} {h₀ : Heap} {L : Addr} {m : Str → Option Value} {news : List (Addr × Obj)}
theorem IsPat.noDict {h : Heap} {a : Addr} {code : Array Nat} {g : Nat} (P : IsPat h a code g) : ∀ b, Value.ref a = .ref b → ∃ o, h.get? b = some o ∧ o.dict = none := by
  intro b e
  cases e
  obtain ⟨o, p, f, c, vs, n, oc, ho, hc, hdn, _⟩ := P.obj
  exact ⟨o, ho, hdn⟩
theorem IsMatch.noDict {h : Heap} {a : Addr} {x : Str} {t : Tok} {b e : Nat} (P : IsMatch h a x t b e) : ∀ b, Value.ref a = .ref b → ∃ o, h.get? b = some o ∧ o.dict = none := by
  intro b e
  cases e
  obtain ⟨o, v2, v3, v4, v5, tp, op, vs, n, ho, hc, hdn, _⟩ := P.obj
  exact ⟨o, ho, hdn⟩
theorem IsMatch.typeIs {a : Addr} {x : Str} {t : Tok} {b e : Nat} (P : IsMatch s.heap a x t b e) : s.TypeIs (.ref a) "re.Match" := by
  obtain ⟨o, v2, v3, v4, v5, tp, op, vs, n, ho, hc, hdn, _⟩ := P.obj
  exact ⟨o, ho, hc⟩
theorem gm_match {a : Addr} {code : Array Nat} {g : Nat} {pl : Sem Bool} {Q : Value × List Value → Shared → Prop} (P : IsPat s.heap a code g) (h : Q (.builtin "re.Pattern.match", [.ref a]) s) :
    wpAny (model PySem.Challenge.rw_sc0019_01.prog w) A (getMethod (.ref a) (Str.ofString "match") pl) Q E s := getMethod_builtin P.typeIs plain_pattern slot_pmatch type_pmatch P.noDict h
theorem gm_split {a : Addr} {code : Array Nat} {g : Nat} {pl : Sem Bool} {Q : Value × List Value → Shared → Prop} (P : IsPat s.heap a code g) (h : Q (.builtin "re.Pattern.split", [.ref a]) s) :
    wpAny (model PySem.Challenge.rw_sc0019_01.prog w) A (getMethod (.ref a) (Str.ofString "split") pl) Q E s := getMethod_builtin P.typeIs plain_pattern slot_psplit type_psplit P.noDict h
theorem gm_group {a : Addr} {x : Str} {t : Tok} {b e : Nat} {pl : Sem Bool} {Q : Value × List Value → Shared → Prop} (P : IsMatch s.heap a x t b e) (h : Q (.builtin "re.Match.group", [.ref a]) s) :
    wpAny (model PySem.Challenge.rw_sc0019_01.prog w) A (getMethod (.ref a) (Str.ofString "group") pl) Q E s := getMethod_builtin P.typeIs plain_match slot_mgroup type_mgroup P.noDict h

theorem Fr.ext {h h' : Heap} (F : Fr h₀ L h m) (k : h.StaysIn h') : Fr h₀ L h' m := ⟨F.ns.keeps k, fun b o e => k b o (F.keep b o e), F.above⟩
theorem News.ext {h h' : Heap} (N : News h₀ L h news) (k : h.StaysIn h') : News h₀ L h' news := fun p hp => ⟨k _ _ (N p hp).1, (N p hp).2⟩

theorem w_match2 {x : Str} {t : Tok} {Q : Value → Shared → Prop} (F : Fr h₀ L s.heap m) (N : News h₀ L s.heap news) (X₀ : (hd.heap_39 w.params).In h₀) (hx : x.length ≤ 16777216)
    (hno : white x = false → Q .none s) (hyes : white x = true → ∀ r h', s.heap.StaysIn h' → Fr h₀ L h' m → News h₀ L h' news → Q (.ref r) { s with heap := h' }) :
    wpAny (model PySem.Challenge.rw_sc0019_01.prog w) A (call (.builtin "re.Pattern.match") [.ref 41, .str x t]) Q E s :=
  call_match2 (pat2_of (X₀.keeps F.keep)) hx hno fun hw r h' k => hyes hw r h' k (Fr.ext F k) (News.ext N k)
theorem w_match3 {x : Str} {t : Tok} {Q : Value → Shared → Prop} (F : Fr h₀ L s.heap m) (N : News h₀ L s.heap news) (X₀ : (hd.heap_39 w.params).In h₀) (hx : x.length ≤ 16777216)
    (h : ∀ r h', s.heap.StaysIn h' → IsMatch h' r x t 0 (indentLen x) → Fr h₀ L h' m → News h₀ L h' news → Q (.ref r) { s with heap := h' }) :
    wpAny (model PySem.Challenge.rw_sc0019_01.prog w) A (call (.builtin "re.Pattern.match") [.ref 46, .str x t]) Q E s :=
  call_match3 (pat3_of (X₀.keeps F.keep)) hx fun r h' k _ I => h r h' k I (Fr.ext F k) (News.ext N k)
end
end
section
open PySem PySem.W PySem.Calls PyProof.Rows
/-- what a frame's names hold -/
def Has (m : Str → Option Value) : List (Str × Value) → Prop
  | [] => True
  | (x, v) :: r => m x = some v ∧ Has m r
/-- an address above all that the ledger holds -/
def Below (D : Addr) (news : List (Addr × Obj)) : Prop := ∀ p ∈ news, @LT.lt Nat _ p.1 D
theorem Below.ne {D : Addr} {news : List (Addr × Obj)} (h : Below D news) : ∀ p ∈ news, p.1 ≠ D := fun p hp e => Nat.lt_irrefl _ (e ▸ h p hp : @LT.lt Nat _ p.1 p.1)
theorem Below.gt {D a : Addr} {o : Obj} {news : List (Addr × Obj)} (h : Below D news) (hm : (a, o) ∈ news) : D ≠ a := fun e => Below.ne h _ hm e.symm
theorem Below.named {D : Addr} {news : List (Addr × Obj)} (h : Below D news) : ∃ D', D' = D ∧ Below D' news := ⟨D, rfl, h⟩
theorem get_here {m : Str → Option Value} {x : Str} {v : Value} : (fun y => if y = x then some v else m y) x = some v := if_pos rfl
theorem get_there {m : Str → Option Value} {x z : Str} {v u : Value} (hz : z ≠ x) (h : m z = some u) : (fun y => if y = x then some v else m y) z = some u := (if_neg hz).trans h
theorem get_there' {m m' : Str → Option Value} {z : Str} {u : Value} (h : m' z = some u) (e : m z = m' z) : m z = some u := e.trans h
abbrev lst (vs : List Value) (n : Nat := 0) : Obj := { cls := .type "list", data := .seq vs.toArray n }

section
variable {prog : Program} {w : World} {A : Around} {E : Value → Shared → Prop} {s : Shared} {h₀ : Heap} {L : Addr} {m : Str → Option Value} {news : List (Addr × Obj)}
theorem isList_of {l : Addr} {vs : List Value} {n : Nat} (N : News h₀ L s.heap news) (hm : (l, lst vs n) ∈ news) : s.heap.IsList l vs.toArray := ⟨_, News.get N hm, rfl, n, rfl⟩
theorem strsAre_get {vs : List Value} {xs : List Str} (h : StrsAre vs xs) : ∀ {i : Nat}, i < xs.length → ∃ t, vs[i]? = some (.str (xs.getD i Str.empty) t) := by
  induction h with
  | nil => intro i hi; exact absurd hi (Nat.not_lt_zero _)
  | cons y t _ ih =>
    intro i hi
    cases i with
    | zero => exact ⟨t, rfl⟩
    | succ i => exact ih (Nat.lt_of_succ_lt_succ hi)
theorem item_of {value slice : Expr} {l : Addr} {vs : List Value} {k : Int} {u : Tok} {v : Value} {Q : Value → Shared → Prop} (hl : s.heap.IsList l vs.toArray) (h0 : 0 ≤ k) (hhi : k < 2 ^ 63) (hx : vs[k.toNat]? = some v) (h : Q v s)
    (hs : subscripted slice false (.ref l) (.int k u) = operate [.ref l, .int k u] (getItem (.ref l) (.int k u)) := by with_unfolding_all rfl) :
    wpAny (model prog w) A (subscriptTail value slice (.ref l) (.int k u)) Q E s := tail_any hl.typeIs slot_list_getitem.lookup (wpAny_getItem_list hl h0 hhi (by simpa using hx) h) hs
theorem item_strs {value slice : Expr} {l : Addr} {vs : List Value} {xs : List Str} {n : Nat} {k : Nat} {u : Tok} {Q : Value → Shared → Prop} (N : News h₀ L s.heap news) (hm : (l, lst vs n) ∈ news) (hs : StrsAre vs xs) (hk : k < xs.length) (hb : xs.length ≤ 16777216)
    (h : ∀ t, Q (.str (xs.getD k Str.empty) t) s) (hs' : subscripted slice false (.ref l) (.int (k : Int) u) = operate [.ref l, .int (k : Int) u] (getItem (.ref l) (.int (k : Int) u)) := by with_unfolding_all rfl) :
    wpAny (model prog w) A (subscriptTail value slice (.ref l) (.int (k : Int) u)) Q E s := by
  obtain ⟨t, ht⟩ := strsAre_get hs hk
  exact item_of (isList_of N hm) (Int.natCast_nonneg _) (by omega) (by simpa using ht) (h t) hs'
end

theorem News.sub {h₀ h : Heap} {L : Addr} {news news' : List (Addr × Obj)} (N : News h₀ L h news) (hs : ∀ p ∈ news', p ∈ news) : News h₀ L h news' := fun p hp => N p (hs p hp)
/-- an end at which the walk stands still -/
def Endd (P : Flow → Shared → Prop) (f : Flow) (s : Shared) : Prop := P f s
theorem endd {M : Model} {A : Around} {E E' : Value → Shared → Prop} {s : Shared} {t : Sem Flow} {Q : Flow → Shared → Prop} (P : Flow → Shared → Prop) (h : wpAny M A t (Endd P) E s) (hE : ∀ e s', E e s' → E' e s') (k : ∀ f s', P f s' → Q f s') : wpAny M A t Q E' s := wpAny_mono h k hE

section
variable {prog : Program} {w : World} {A : Around} {E : Value → Shared → Prop} {s : Shared} {h₀ : Heap} {L : Addr} {m : Str → Option Value} {news news' : List (Addr × Obj)}
theorem w_upto {value slice : Expr} {l : Addr} {vs : List Value} {n i : Nat} {ti : Tok} {Q : Value → Shared → Prop} {h : Heap} {ge : _} {dr : _} {tk : Nat} {os : _} (F : Fr h₀ L h m) (N : News h₀ L h news) (hm : (l, lst vs n) ∈ news) (hb : vs.length ≤ 16777216)
    (k : ∀ D h', Fr h₀ L h' m → News h₀ L h' ((D, lst (vs.take i)) :: news) → Below D news → Q (.ref D) ⟨h', ge, dr, tk, os⟩)
    (hs : subscripted slice false (.ref l) (.ref h.objs.size) = operate [.ref h.objs.size, .ref l] (getItem (.ref l) (.ref h.objs.size)) := by with_unfolding_all rfl)
    (ht : ∀ r, letTemporaryGo value (.ref l) r = pure () := by intro _; with_unfolding_all rfl) :
    wpAny (model prog w) A (subscriptTail value slice (.ref l) (.ref h.objs.size)) Q E ⟨h.push { cls := .type "slice", data := .fields #[.none, .int (i : Int) ti, .none] }, ge, dr, tk, os⟩ := by
  refine slice_list (s := ⟨h, ge, dr, tk, os⟩) F N (isList_of (s := ⟨h, ge, dr, tk, os⟩) N hm) .none (.int _ _) (fun h' F' N' => ?_) hs ht (by rw [sizeLine_eq]; simpa using hb)
  rw [slicePick_upto'] at N'
  exact k _ h' F' N' fun p hp => Nat.lt_succ_of_lt (Heap.lt_size (N p hp).1)
theorem w_from {value slice : Expr} {l : Addr} {vs : List Value} {n i : Nat} {ti : Tok} {Q : Value → Shared → Prop} {h : Heap} {ge : _} {dr : _} {tk : Nat} {os : _} (F : Fr h₀ L h m) (N : News h₀ L h news) (hm : (l, lst vs n) ∈ news) (hb : vs.length ≤ 16777216)
    (k : ∀ D h', Fr h₀ L h' m → News h₀ L h' ((D, lst (vs.drop i)) :: news) → Below D news → Q (.ref D) ⟨h', ge, dr, tk, os⟩)
    (hs : subscripted slice false (.ref l) (.ref h.objs.size) = operate [.ref h.objs.size, .ref l] (getItem (.ref l) (.ref h.objs.size)) := by with_unfolding_all rfl)
    (ht : ∀ r, letTemporaryGo value (.ref l) r = pure () := by intro _; with_unfolding_all rfl) :
    wpAny (model prog w) A (subscriptTail value slice (.ref l) (.ref h.objs.size)) Q E ⟨h.push { cls := .type "slice", data := .fields #[.int (i : Int) ti, .none, .none] }, ge, dr, tk, os⟩ := by
  refine slice_list (s := ⟨h, ge, dr, tk, os⟩) F N (isList_of (s := ⟨h, ge, dr, tk, os⟩) N hm) (.int _ _) .none (fun h' F' N' => ?_) hs ht (by rw [sizeLine_eq]; simpa using hb)
  rw [slicePick_from'] at N'
  exact k _ h' F' N' fun p hp => Nat.lt_succ_of_lt (Heap.lt_size (N p hp).1)
theorem w_append {D : Addr} {vs : List Value} {n : Nat} {x : Value} {Q : Value → Shared → Prop} (F : Fr h₀ L s.heap m) (N : News h₀ L s.heap news) (U : Upd D (lst vs n) (lst (vs ++ [x]) (n + 1)) news news') (hb : vs.length ≤ 16777216)
    (h : ∀ h', Fr h₀ L h' m → News h₀ L h' news' → Q .none { s with heap := h' }) : wpAny (model prog w) A (call (.builtin "list.append") [.ref D, x]) Q E s := by
  refine append_K (its := vs.toArray) (n := n) F N (by simpa using U) h (by rw [sizeLine_eq]; simpa using hb)
theorem w_extend {D b : Addr} {vs ws : List Value} {n n2 : Nat} {Q : Value → Shared → Prop} (F : Fr h₀ L s.heap m) (N : News h₀ L s.heap news) (hm : (b, lst ws n2) ∈ news)
    (U : Upd D (lst vs n) (lst (vs ++ ws) (if ws.length = 0 then n else n + 1)) news news') (hb : vs.length + ws.length ≤ 1000000)
    (h : ∀ h', Fr h₀ L h' m → News h₀ L h' news' → Q .none { s with heap := h' }) : wpAny (model prog w) A (call (.builtin "list.extend") [.ref D, .ref b]) Q E s := by
  have hd : ¬(!vs.toArray.isEmpty && Builtin.List.listTooLong (vs.toArray.size + ws.toArray.size)) = true := by
    have : Builtin.List.listTooLong (vs.toArray.size + ws.toArray.size) = false := by
      unfold Builtin.List.listTooLong
      rw [decide_eq_false_iff_not, sizeLine_eq]
      simp; omega
    rw [this]; simp
  by_cases e : ws.length = 0
  · rw [if_pos e, List.eq_nil_of_length_eq_zero e, List.append_nil] at U
    exact kxn_extend F N hm (by simpa using List.eq_nil_of_length_eq_zero e) U hd (by rw [sizeLine_eq]; simp; omega) (by rw [sizeLine_eq]; simp; omega) h
  · rw [if_neg e] at U
    exact kl_extend F N hm (l := vs ++ ws) (by simp) (by simpa using e) U hd (by rw [sizeLine_eq]; simp; omega) (by rw [sizeLine_eq]; simp; omega) h
theorem w_join {D : Addr} {vs : List Value} {n : Nat} {xs : List Str} {y : Str} {t : Tok} {Q : Value → Shared → Prop} (F : Fr h₀ L s.heap m) (N : News h₀ L s.heap news) (hm : (D, lst vs n) ∈ news) (hi : StrsAre vs xs) (hs : y.length ≤ 16) (hw : (xs.map (·.length)).sum + xs.length ≤ 1048576)
    (h : ∀ t' k, Q (.str (Txt.join y xs) t') { s with toks := k }) : wpAny (model prog w) A (call (.builtin "str.join") [.str y t, .ref D]) Q E s :=
  join_listW (isList_of N hm) (by simpa using hi) hs hw h
theorem item_strsI {value slice : Expr} {l : Addr} {vs : List Value} {xs : List Str} {n : Nat} {k : Int} {u : Tok} {Q : Value → Shared → Prop} (N : News h₀ L s.heap news) (hm : (l, lst vs n) ∈ news) (hs : StrsAre vs xs) (h0 : 0 ≤ k) (hk : k < (xs.length : Int)) (hb : xs.length ≤ 16777216)
    (h : ∀ t, Q (.str (xs.getD k.toNat Str.empty) t) s) (hs' : subscripted slice false (.ref l) (.int k u) = operate [.ref l, .int k u] (getItem (.ref l) (.int k u)) := by with_unfolding_all rfl) :
    wpAny (model prog w) A (subscriptTail value slice (.ref l) (.int k u)) Q E s := by
  obtain ⟨t, ht⟩ := strsAre_get hs (i := k.toNat) (by omega)
  exact item_of (isList_of N hm) h0 (by omega) ht (h t) hs'
theorem w_split {x : Str} {t : Tok} {Q : Value → Shared → Prop} (F : Fr h₀ L s.heap m) (N : News h₀ L s.heap news) (X₀ : (hd.heap_39 w.params).In h₀) (hx : x.length ≤ 1000000)
    (h : ∀ W wv h' tk, StrsAre wv (pieces x) → Fr h₀ L h' m → News h₀ L h' ((W, lst wv) :: news) → Below W news → Q (.ref W) { s with heap := h', toks := tk }) :
    wpAny (model prog w) A (call (.builtin "re.Pattern.split") [.ref 36, .str x t]) Q E s :=
  call_split (pat1_of (X₀.keeps F.keep)) hx fun vs tk hv => h _ vs _ tk hv (F.push _) (News.push F N _) fun p hp => Heap.lt_size (N p hp).1
end
def EndV (P : Value → Shared → Prop) (v : Value) (s : Shared) : Prop := P v s
theorem endv {M : Model} {A : Around} {E : Value → Shared → Prop} {s : Shared} {t : Sem Value} {Q : Value → Shared → Prop} (h : wpAny M A t (EndV Q) E s) : wpAny M A t Q E s := h

section
variable {prog : Program} {w : World} {A : Around} {E : Value → Shared → Prop} {s : Shared} {h₀ : Heap} {L : Addr} {m : Str → Option Value} {news news' : List (Addr × Obj)} {x y : Str} {t u : Tok} {Q : Value → Shared → Prop}
theorem w_add (hz : x.length + y.length ≤ 16777216) (h : ∀ t' k, Q (.str (x ++ y) t') { s with toks := k }) : wpAny (model prog w) A (binaryOp .Add (.str x t) (.str y u)) Q E s := SB.add h (by rw [sizeLine_eq]; exact hz)
theorem w_rstrip (hz : x.length ≤ 16777216) (h : ∀ t' k, Q (.str (Txt.rstrip x) t') { s with toks := k }) : wpAny (model prog w) A (call (.builtin "str.rstrip") [.str x t]) Q E s := SC.rstrip h (by rw [sizeLine_eq]; exact hz)
theorem w_len (hz : x.length ≤ 16777216) (h : ∀ t' k, Q (.int (x.length : Int) t') { s with toks := k }) : wpAny (model prog w) A (call (.builtin "len") [.str x t]) Q E s := P.len_str (by omega) (h _ _)
theorem w_truthy {Q : Bool → Shared → Prop} (hz : x.length ≤ 16777216) (h : ∀ k, Q (decide (x.length ≠ 0)) { s with toks := k }) : wpAny (model prog w) A (truthy (.str x t)) Q E s :=
  P.truthy_str (by omega) (by
    have e : ((x.length : Int) != 0) = decide (x.length ≠ 0) := by
      by_cases hx : x.length = 0
      · rw [hx]; rfl
      · rw [decide_eq_true hx]; simpa using hx
    rw [e]; exact h _)
theorem w_lenl {l : Addr} {vs : List Value} {xs : List Str} {n : Nat} (N : News h₀ L s.heap news) (hm : (l, lst vs n) ∈ news) (hs : StrsAre vs xs) (hb : xs.length ≤ 16777216)
    (h : ∀ t' k, Q (.int (xs.length : Int) t') { s with toks := k }) : wpAny (model prog w) A (call (.builtin "len") [.ref l]) Q E s := len_strsA (isList_of N hm) hs (by omega) (h _ _)
theorem gm_expand {pl : Sem Bool} {Q : Value × List Value → Shared → Prop} (h : Q (.builtin "str.expandtabs", [.str x t]) s) : wpAny (model prog w) A (getMethod (.str x t) "expandtabs" pl) Q E s := by
  have hd : ∀ a, Value.str x t = .ref a → ∃ o, s.heap.get? a = some o ∧ o.dict = none := fun a e => by cases e
  with_reducible exact getMethod_builtin (typeIs_str _ _ _) F.plainAttrs_str F.slot_str_expandtabs F.type_str_expandtabs hd h
end
end
section
open PySem PySem.W PySem.Calls PyProof.Rows
local macro_rules | `(tactic| walk_at "getMethod ref") => `(tactic| first | refine gm_split (pat1_of (Frag.In.keeps (by k_asm) (Fr.keep (by k_asm)))) ?_ | refine gm_match (pat2_of (Frag.In.keeps (by k_asm) (Fr.keep (by k_asm)))) ?_ | refine gm_match (pat3_of (Frag.In.keeps (by k_asm) (Fr.keep (by k_asm)))) ?_ | refine gm_group (by assumption) ?_)
local macro_rules | `(tactic| walk_at "call builtin:re.Pattern.match") => `(tactic| first | (refine w_match2 (by k_asm) (by k_asm) (by k_asm) (by assumption) (fun hW => ?_) (fun hW r' h' k' F' N' => ?_)) | (refine w_match3 (by k_asm) (by k_asm) (by k_asm) (by assumption) (fun r' h' k' I' F' N' => ?_)))
local macro_rules | `(tactic| walk_at "call builtin:re.Match.group") => `(tactic| refine call_group (by assumption) (by assumption) ?_)
local macro_rules | `(tactic| ktr_unf) => `(tactic| repeat' (first | ((fail_if_success (with_reducible show wpAny _ _ (exec (Stmt.While _ _ _ _) _) _ _ _)); (fail_if_success (with_reducible show wpAny _ _ (exec (Stmt.For _ _ _ _ _) _) _ _ _)); (first | (walk1; (try dsimp only)) | (dsimp only; walk1; (try dsimp only))))))
local macro_rules | `(tactic| back_in) => `(tactic| repeat' (first | ((fail_if_success (with_reducible show wpAny _ _ (exec (Stmt.While _ _ _ _) _) _ _ _)); (fail_if_success (with_reducible show wpAny _ _ (exec (Stmt.For _ _ _ _ _) _) _ _ _)); (fail_if_success (with_reducible show wpAny _ _ (exec (Stmt.If _ _ _ _) _) _ _ _)); (first | (walk1; (try dsimp only)) | (dsimp only; walk1; (try dsimp only))))))
local macro_rules | `(tactic| walk_at "call builtin:re.Pattern.split") => `(tactic| (refine w_split (by k_asm) (by k_asm) (by k_asm) (by ktr_room) (fun W' wv' h' tk' hW' F' N' l' => ?_)))
local macro_rules | `(tactic| walk_at "call builtin:str.expandtabs") => `(tactic| (refine call_expandtabs (by ktr_room) (fun t' k' => ?_)))
local macro_rules | `(tactic| apart_at) => `(tactic| first | exact List.Mem.head _ | (refine List.Mem.tail _ ?_; apart_at))
local macro_rules | `(tactic| walk_at "subscriptTail Name Name ref int") => `(tactic| (refine item_strsI (by k_asm) (by apart_at) (by assumption) (by omega) (by omega) (by ktr_room) (fun t' => ?_)))
local macro_rules | `(tactic| walk_at "subscriptTail Name Slice ref ref") => `(tactic| first | (refine w_upto (by k_asm) (by k_asm) (by apart_at) (by ktr_room) (fun D' h' F' N' l' => ?_)) | (refine w_from (by k_asm) (by k_asm) (by apart_at) (by ktr_room) (fun D' h' F' N' l' => ?_)))
local macro_rules | `(tactic| walk_at "binaryOp Add str str") => `(tactic| (refine w_add (by ktr_room) (fun t' k' => ?_)))
local macro_rules | `(tactic| walk_at "call builtin:str.rstrip") => `(tactic| (refine w_rstrip (by ktr_room) (fun t' k' => ?_)))
local macro_rules | `(tactic| walk_at "call builtin:len") => `(tactic| first | (refine w_len (by ktr_room) (fun t' k' => ?_)) | (refine w_lenl (by k_asm) (by apart_at) (by assumption) (by ktr_room) (fun t' k' => ?_)))
local macro_rules | `(tactic| walk_at "truthy str") => `(tactic| (refine w_truthy (by ktr_room) (fun k' => ?_)))
local macro_rules | `(tactic| fresh_at) => `(tactic| first | exact List.forall_mem_nil _ | (refine List.forall_mem_cons.mpr ⟨?_, ?_⟩; (first | assumption | (exact Ne.symm (by assumption)) | (refine Below.gt (by assumption) (by apart_at)) | (refine Ne.symm (Below.gt (by assumption) (by apart_at)))); fresh_at) | (refine' Upd.head ?upa; (case upa => fresh_at)) | (refine' Upd.tail ?upa ?upb; (case upa => (first | assumption | (exact Ne.symm (by assumption)) | (refine Below.gt (by assumption) (by apart_at)) | (refine Ne.symm (Below.gt (by assumption) (by apart_at))))); (case upb => fresh_at)))
local macro_rules | `(tactic| walk_at "call builtin:list.append") => `(tactic| (refine w_append (by k_asm) (by k_asm) (by fresh_at) (by ktr_room) (fun h' F' N' => ?_)))
local macro_rules | `(tactic| walk_at "call builtin:list.extend") => `(tactic| (refine w_extend (by k_asm) (by k_asm) (by apart_at) (by fresh_at) (by ktr_room) (fun h' F' N' => ?_)))
local macro_rules | `(tactic| walk_at "call builtin:str.join") => `(tactic| (refine w_join (by k_asm) (by k_asm) (by apart_at) (by k_sizes) (by ktr_room) (by ktr_room) (fun t' k' => ?_)))
local macro_rules | `(tactic| k_sizes) => `(tactic| first | assumption | exact StrsAre.cons _ _ StrsAre.nil | exact StrsAre.drop' (by assumption) _ | (refine' strsAre_append ?sap ?saq; (case sap => k_sizes); (case saq => k_sizes)))
local macro_rules | `(tactic| walk_at "getMethod str") => `(tactic| (with_reducible refine gm_expand ?_))
section
set_option maxHeartbeats 8000000 in
theorem code_white : ∀ {w : World} {A : Around} {s : Shared} {mg mb : Str → Option Value} {x : Str} {t : Tok} {R : Result → Shared → Prop}
    (X : (hd.heap_39 w.params).In s.heap) (T : TR mg mb s.heap) (hroom : A.depth < recursionLimit) (hx : x.length ≤ 16777216) (hR : ∀ h' tk, s.heap.StaysIn h' → R (.ok (.ret (.bool (white x)))) { s with heap := h', toks := tk }),
   codeAny (model PySem.Challenge.rw_sc0019_01.prog w) A (.call (.ref 67) ⟨[.str x t], []⟩) R s := by
  k_fill
  intro w A s mg mb x t R X T hroom hx hR
  refine enter (news := []) X T (fun _ h => nomatch h) (by k_is) (by k_is) hroom (BindsTo.of_eq rfl) (locs rfl) (fun L h₁ F N => ?_)
  change Fr s.heap L h₁ (mp [(Str.ofString "line", .str x t)]) at F
  change News s.heap L h₁ [] at N
  ktr_unf
  · rename white x = false => hw
    rw [hw] at hR
    exact hR _ _ (Fr.keep (by assumption))
  · rename white x = true => hw
    rw [hw] at hR
    exact hR _ _ (Fr.keep (by assumption))

set_option maxHeartbeats 8000000 in
theorem code_indent : ∀ {w : World} {A : Around} {s : Shared} {mg mb : Str → Option Value} {x : Str} {t : Tok} {R : Result → Shared → Prop}
    (X : (hd.heap_39 w.params).In s.heap) (T : TR mg mb s.heap) (hroom : A.depth < recursionLimit) (hx : x.length ≤ 16777216) (hR : ∀ h' t' tk, s.heap.StaysIn h' → R (.ok (.ret (.str (indent x) t'))) { s with heap := h', toks := tk }),
   codeAny (model PySem.Challenge.rw_sc0019_01.prog w) A (.call (.ref 74) ⟨[.str x t], []⟩) R s := by
  k_fill
  intro w A s mg mb x t R X T hroom hx hR
  refine enter (news := []) X T (fun _ h => nomatch h) (by k_is) (by k_is) hroom (BindsTo.of_eq rfl) (locs rfl) (fun L h₁ F N => ?_)
  change Fr s.heap L h₁ (mp [(Str.ofString "line", .str x t)]) at F
  change News s.heap L h₁ [] at N
  ktr_unf
  exact hR _ _ _ (Fr.keep (by assumption))
end
section
section
variable {w : World} {A : Around} {E : Value → Shared → Prop} {s : Shared} {h₀ : Heap} {L : Addr} {m mg mb : Str → Option Value} {news : List (Addr × Obj)}
theorem call_white {x : Str} {t : Tok} {Q : Value → Shared → Prop} (F : Fr h₀ L s.heap m) (N : News h₀ L s.heap news) (X₀ : (hd.heap_39 w.params).In h₀) (T₀ : TR mg mb h₀) (hroom : A.depth < recursionLimit) (hx : x.length ≤ 16777216)
    (h : ∀ h' tk, Fr h₀ L h' m → News h₀ L h' news → Q (.bool (white x)) { s with heap := h', toks := tk }) : wpAny (model PySem.Challenge.rw_sc0019_01.prog w) A (call (.ref 67) [.str x t] []) Q E s :=
  wpAny_call (code_white (X₀.keeps F.keep) (T₀.keeps F.keep) hroom hx fun h' tk k => h h' tk (Fr.ext F k) (News.ext N k))
theorem call_indent {x : Str} {t : Tok} {Q : Value → Shared → Prop} (F : Fr h₀ L s.heap m) (N : News h₀ L s.heap news) (X₀ : (hd.heap_39 w.params).In h₀) (T₀ : TR mg mb h₀) (hroom : A.depth < recursionLimit) (hx : x.length ≤ 16777216)
    (h : ∀ h' t' tk, Fr h₀ L h' m → News h₀ L h' news → Q (.str (indent x) t') { s with heap := h', toks := tk }) : wpAny (model PySem.Challenge.rw_sc0019_01.prog w) A (call (.ref 74) [.str x t] []) Q E s :=
  wpAny_call (code_indent (X₀.keeps F.keep) (T₀.keeps F.keep) hroom hx fun h' t' tk k => h h' t' tk (Fr.ext F k) (News.ext N k))
end
end
section
def nthS : List Stmt → Nat → Stmt
  | [], _ => .Pass ⟨0, 0, 0, 0⟩
  | a :: _, 0 => a
  | _ :: r, n + 1 => nthS r n
def loopBody : Stmt → List Stmt
  | .While _ b _ _ => b
  | .For _ _ b _ _ => b
  | _ => []
/-- the turn of the paragraph's inner loop -/
def turnOf (body : List Stmt) : List Stmt := loopBody (nthS (loopBody (nthS body 9)) 1)
theorem fn_inj {K : Frag} {f : Addr} {name qual : Str} {params : Arguments} {body : List Stmt} {scope : Scope} {dV kV doc pm cdv ct oc : Value} {an od : Option Addr} {osl : Array (Option Value)}
    {name' qual' : Str} {params' : Arguments} {body' : List Stmt} {scope' : Scope} {dV' kV' doc' pm' cdv' ct' oc' : Value} {an' od' : Option Addr} {osl' : Array (Option Value)}
    (h : K.lookup f = some ⟨oc, od, .func (fnOf name qual params body scope dV kV doc pm an cdv ct), osl⟩)
    (h' : K.lookup f = some ⟨oc', od', .func (fnOf name' qual' params' body' scope' dV' kV' doc' pm' an' cdv' ct'), osl'⟩) : body = body' ∧ scope = scope' ∧ qual = qual' ∧ cdv = cdv' := by
  rw [h] at h'
  simp only [Option.some.injEq, Obj.mk.injEq, Data.func.injEq, FuncData.mk.injEq] at h'
  simp_all
theorem size_of (n : Nat) : Builtin.Range.rangeSize 0 (n : Int) 2 = (((n + 1) / 2 : Nat) : Int) := by
  unfold Builtin.Range.rangeSize
  rw [if_pos (by decide)]
  split <;> omega
theorem fits_of {i : Int} (h0 : 0 ≤ i) (h1 : i < 2 ^ 62) : Builtin.Range.rangeFitsLong i = true := by
  unfold Builtin.Range.rangeFitsLong
  simp only [Bool.and_eq_true, decide_eq_true_eq]
  omega
theorem small_of {n : Nat} (h : n ≤ 16777216) : Builtin.Range.small 0 (n : Int) 2 = true := by
  unfold Builtin.Range.small
  rw [size_of, fits_of (by omega) (by omega), fits_of (by omega) (by omega), fits_of (by omega) (by omega), fits_of (by omega) (by omega), if_pos (by decide), fits_of (by omega) (by omega), Bool.or_true]
  rfl
end
section
local macro_rules | `(tactic| walk_at "call ref") => `(tactic| first | (refine call_white (by k_asm) (by k_asm) (by k_asm) (by k_asm) (by show _ + 1 < _; omega) (by ktr_room) (fun h' tk' F' N' => ?_)) | (refine call_indent (by k_asm) (by k_asm) (by k_asm) (by k_asm) (by show _ + 1 < _; omega) (by ktr_room) (fun h' t' tk' F' N' => ?_)))
local macro_rules | `(tactic| ktr_rel) => `(tactic| first | assumption | exact get_here | (refine get_there (by decide) ?_; ktr_rel))
local macro_rules | `(tactic| ktr_room) => `(tactic| first | assumption | omega | (simp only [str_append_len, str_one, List.length_append, List.length_drop, List.length_cons, List.length_nil]; omega) | decide | ((with_reducible rename (∀ i : Nat, Str.length (List.getD _ i _) ≤ _) => hw'); exact Nat.le_trans (hw' _) (Nat.le_of_ble_eq_true rfl)))
local macro_rules | `(tactic| walk_at "eval Name") => `(tactic| (refine ld (by k_asm) (by ktr_rel) ?_))
/-- what stays in the names of the paragraph's frame while the inner loop runs -/
def Held7 (m : Str → Option Value) (j n : Nat) (tj tn u t1 t2 : Tok) (l D : Addr) (lim : Int) (i1 i2 : Str) : Prop :=
  m (Str.ofString "i") = some (.int (j : Int) tj) ∧ m (Str.ofString "n") = some (.int (n : Int) tn) ∧ m (Str.ofString "lines") = some (.ref l) ∧ m (Str.ofString "limit") = some (.int lim u) ∧
    m (Str.ofString "indent1") = some (.str i1 t1) ∧ m (Str.ofString "indent2") = some (.str i2 t2) ∧ m (Str.ofString "new") = some (.ref D)
set_option pp.maxSteps 1500 in
set_option maxHeartbeats 8000000 in
theorem para_turn : ∀ {w : World} {A : Around} {s : Shared} {h₀ : Heap} {mg mb : Str → Option Value} {L I D W l : Addr} {o : Obj} {m : Str → Option Value} {ns wv vs : List Value} {c j n q : Nat} {tj tn u t1 t2 t tp : Tok} {lim : Int} {i1 i2 Y y : Str} {st : List Str × Str} {P : Flow → Shared → Prop}
    {name qual : Str} {params : Arguments} {body : List Stmt} {scope : Scope} {dV kV doc pm cdv ct oc : Value} {an od : Option Addr} {osl : Array (Option Value)}
    (ho : (hd.heap_39 w.params).lookup 53 = some ⟨oc, od, .func (fnOf name qual params body scope dV kV doc pm an cdv ct), osl⟩)
    (X₀ : (hd.heap_39 w.params).In h₀) (T₀ : TR mg mb h₀) (F : Fr h₀ L s.heap m) (N : News h₀ L s.heap [(I, o), (D, lst ns c), (W, lst wv), (l, lst vs)]) (hDI : D ≠ I) (hWD : W ≠ D) (hlD : l ≠ D)
    (hpc : StrsAre wv (pieces Y)) (hYl : Y.length ≤ 600) (hpl : (pieces Y).length ≤ 16777216) (hq' : 2 * q < (pieces Y).length) (hy : y = (pieces Y).getD (2 * q) Str.empty)
    (hns : StrsAre ns st.1) (hb1 : st.1.length ≤ 1000000) (hb2 : st.2.length ≤ 1000000) (hi2l : i2.length ≤ 600) (hm : Held7 m j n tj tn u t1 t2 l D lim i1 i2)
    (mW : m (Str.ofString "words") = some (.ref W)) (mj : m (Str.ofString "j") = some (.int ((2 * q : Nat) : Int) t)) (mp : m (Str.ofString "partial") = some (.str st.2 tp))
    (hP : ∀ fl h' tk m' ns' c' tp', (fl = .next ∨ fl = .cont) → Fr h₀ L h' m' → News h₀ L h' [(I, o), (D, lst ns' c'), (W, lst wv), (l, lst vs)] →
      StrsAre ns' (wordStep lim i1 i2 st (y, decide (2 * q + 1 < (pieces Y).length) && ((pieces Y).getD (2 * q + 1) Str.empty != blank))).1 →
      Held7 m' j n tj tn u t1 t2 l D lim i1 i2 → m' (Str.ofString "words") = some (.ref W) → m' (Str.ofString "partial") = some (.str (wordStep lim i1 i2 st (y, decide (2 * q + 1 < (pieces Y).length) && ((pieces Y).getD (2 * q + 1) Str.empty != blank))).2 tp') →
      P fl { s with heap := h', toks := tk }),
    wpAny (model PySem.Challenge.rw_sc0019_01.prog w) (A.deeper (envOf qual scope L 53 cdv)) (execs (turnOf body) (envOf qual scope L 53 cdv)) P (fun _ _ => False) s := by
  k_fill
  intro w A s h₀ mg mb L I D W l o m ns wv vs c j n q tj tn u t1 t2 t tp lim i1 i2 Y y st P name qual params body scope dV kV doc pm cdv ct oc an od osl ho X₀ T₀ F N hDI hWD hlD hpc hYl hpl hq' hy hns hb1 hb2 hi2l hm mW mj mp hP
  obtain ⟨rfl, rfl, rfl, rfl⟩ := fn_inj ho (by k_is)
  dsimp only [turnOf, nthS, loopBody]
  obtain ⟨mi, mn, ml, mlim, m1, m2, mw⟩ := hm
  have hyl : y.length ≤ 600 := by rw [hy]; exact Nat.le_trans (piece_len _) hYl
  have hy' : y = (pieces Y).getD ((2 * q : Nat) : Int).toNat Str.empty := by rw [Int.toNat_natCast]; exact hy
  have hyr := hyl
  rw [hy'] at hyr
  have hnsl : ns.length ≤ 1000000 := by rw [strsAre_length hns]; exact hb1
  clear ho
  back_in
  walk1
  (try dsimp only)
  back_in
  · rename Fr _ _ _ _ => F7
    rename News _ _ _ _ => N7
    rename (Str.length (List.getD _ _ _) ≠ 0) => hne
    rw [← hy'] at F7 hne
    generalize hb : (decide (2 * q + 1 < (pieces Y).length) && ((pieces Y).getD (2 * q + 1) Str.empty != blank)) = b at hP
    obtain ⟨st2, hst2⟩ : ∃ st2, st2 = if ((expand (st.2 ++ y)).length : Int) > lim ∧ st.2 ≠ i1 then (st.1 ++ [Txt.rstrip st.2], i2) else st := ⟨_, rfl⟩
    have hex : (expand (st.2 ++ y)).length ≤ 16777216 := by
      have := expand_length (st.2 ++ y)
      rw [str_append_len] at this; omega
    have hs2l : st2.2.length ≤ 1000000 := by
      rw [hst2]
      split
      · exact Nat.le_trans hi2l (by omega)
      · exact hb2
    have hHs : wordStep lim i1 i2 st (y, b) = (st2.1, if b = true then st2.2 ++ y ++ blank ++ blank else st2.2 ++ y ++ blank) := by
      unfold wordStep
      rw [if_neg hne]
      dsimp only
      rw [← hst2]
    rw [hHs] at hP
    dsimp only at hP
    refine endd (E := fun _ _ => False) (fun f s' => f = .next ∧ ∃ h' tk m' ns c tp ty, s' = { s with heap := h', toks := tk } ∧ Fr h₀ L h' m' ∧ News h₀ L h' [(I, o), (D, lst ns c), (W, lst wv), (l, lst vs)] ∧ StrsAre ns st2.1 ∧ m' (Str.ofString "words") = some (.ref W) ∧
      m' (Str.ofString "j") = some (.int ((2 * q : Nat) : Int) t) ∧ m' (Str.ofString "word") = some (.str y ty) ∧
      m' (Str.ofString "i") = some (.int (j : Int) tj) ∧ m' (Str.ofString "n") = some (.int (n : Int) tn) ∧ m' (Str.ofString "lines") = some (.ref l) ∧ m' (Str.ofString "limit") = some (.int lim u) ∧
      m' (Str.ofString "indent1") = some (.str i1 t1) ∧ m' (Str.ofString "indent2") = some (.str i2 t2) ∧ m' (Str.ofString "new") = some (.ref D) ∧ m' (Str.ofString "partial") = some (.str st2.2 tp)) ?_ (fun _ _ h => h) ?_
    · ktr_unf
      all_goals (rename Fr _ _ _ _ => F8)
      all_goals (rename News _ _ _ _ => N8)
      · rename lim < _ => hl
        rename (st.2 != i1) = true => hn
        have e : st2 = (st.1 ++ [Txt.rstrip st.2], i2) := by rw [hst2, if_pos ⟨hl, by simpa using hn⟩]
        exact ⟨rfl, _, _, _, _, _, _, _, rfl, F8, N8, by rw [e]; exact strsAre_append hns (.cons _ _ .nil), by ktr_rel, by ktr_rel, by ktr_rel, by ktr_rel, by ktr_rel, by ktr_rel, by ktr_rel, by ktr_rel, by ktr_rel, by ktr_rel, by rw [e]; ktr_rel⟩
      · rename (st.2 != i1) = false => hn
        have e : st2 = st := by
          rw [hst2, if_neg]
          rintro ⟨_, h⟩
          simp at hn
          exact h hn
        exact ⟨rfl, _, _, _, ns, _, _, _, rfl, F8, N8, by rw [e]; exact hns, by ktr_rel, by ktr_rel, by ktr_rel, by ktr_rel, by ktr_rel, by ktr_rel, by ktr_rel, by ktr_rel, by ktr_rel, by ktr_rel, by rw [e]; ktr_rel⟩
      · rename ¬ (lim < _) => hl
        have e : st2 = st := by
          rw [hst2, if_neg]
          rintro ⟨h, _⟩
          exact hl h
        exact ⟨rfl, _, _, _, ns, _, _, _, rfl, F8, N8, by rw [e]; exact hns, by ktr_rel, by ktr_rel, by ktr_rel, by ktr_rel, by ktr_rel, by ktr_rel, by ktr_rel, by ktr_rel, by ktr_rel, by ktr_rel, by rw [e]; ktr_rel⟩
    · clear F7 N7 mi mn ml mlim m1 m2 mw mW mj mp hns
      rintro f s' ⟨rfl, h₅, tk₅, m₅, ns, c, tp, ty, rfl, F, N, hns, mW, mj, my, mi, mn, ml, mlim, m1, m2, mw, mp⟩
      have e1 : (((2 * q : Nat) : Int) + 1).toNat = 2 * q + 1 := by omega
      ktr_unf
      all_goals (rename Fr _ _ _ _ => F8)
      all_goals (rename News _ _ _ _ => N8)
      · rename ((List.getD _ _ _ != _) = true) => hn
        rw [e1] at hn
        have eb : b = true := by rw [← hb, decide_eq_true (by omega), Bool.true_and]; exact hn
        rw [if_pos eb] at hP
        exact hP _ _ _ _ ns c _ (.inl rfl) F8 N8 (by assumption) ⟨by ktr_rel, by ktr_rel, by ktr_rel, by ktr_rel, by ktr_rel, by ktr_rel, by ktr_rel⟩ (by ktr_rel) (by ktr_rel)
      · rename ((List.getD _ _ _ != _) = false) => hn
        rw [e1] at hn
        have eb : ¬ b = true := by rw [← hb, decide_eq_true (by omega), Bool.true_and]; intro h; exact Bool.noConfusion (hn.symm.trans h)
        rw [if_neg eb] at hP
        exact hP _ _ _ _ ns c _ (.inl rfl) F8 N8 (by assumption) ⟨by ktr_rel, by ktr_rel, by ktr_rel, by ktr_rel, by ktr_rel, by ktr_rel, by ktr_rel⟩ (by ktr_rel) (by ktr_rel)
      · have eb : ¬ b = true := by rw [← hb, decide_eq_false (by omega), Bool.false_and]; exact Bool.false_ne_true
        rw [if_neg eb] at hP
        exact hP _ _ _ _ ns c _ (.inl rfl) F8 N8 (by assumption) ⟨by ktr_rel, by ktr_rel, by ktr_rel, by ktr_rel, by ktr_rel, by ktr_rel, by ktr_rel⟩ (by ktr_rel) (by ktr_rel)
  · rename Fr _ _ _ _ => F7
    rename News _ _ _ _ => N7
    rename (¬ Str.length (List.getD _ _ _) ≠ 0) => hne
    rw [← hy'] at hne
    have hHs : ∀ b, wordStep lim i1 i2 st (y, b) = st := by
      intro b
      unfold wordStep
      rw [if_pos (Decidable.of_not_not hne)]
    rw [hHs] at hP
    exact hP _ _ _ _ ns c tp (.inr rfl) F7 N7 hns ⟨by ktr_rel, by ktr_rel, by ktr_rel, by ktr_rel, by ktr_rel, by ktr_rel, by ktr_rel⟩ (by ktr_rel) (by ktr_rel)
theorem para_turn' : ∀ {w : World} {A : Around} {h : Heap} {ge : _} {dr : _} {tk₀ : Nat} {os : _} {h₀ : Heap} {mg mb : Str → Option Value} {L I D W l : Addr} {o : Obj} {m : Str → Option Value} {ns wv vs : List Value} {c j n q : Nat} {tj tn u t1 t2 t tp : Tok} {lim : Int} {i1 i2 Y y : Str} {st : List Str × Str} {P : Flow → Shared → Prop}
    {name qual : Str} {params : Arguments} {body : List Stmt} {scope : Scope} {dV kV doc pm cdv ct oc : Value} {an od : Option Addr} {osl : Array (Option Value)}
    (ho : (hd.heap_39 w.params).lookup 53 = some ⟨oc, od, .func (fnOf name qual params body scope dV kV doc pm an cdv ct), osl⟩)
    (X₀ : (hd.heap_39 w.params).In h₀) (T₀ : TR mg mb h₀) (F : Fr h₀ L h m) (N : News h₀ L h [(I, o), (D, lst ns c), (W, lst wv), (l, lst vs)]) (hDI : D ≠ I) (hWD : W ≠ D) (hlD : l ≠ D)
    (hpc : StrsAre wv (pieces Y)) (hYl : Y.length ≤ 600) (hpl : (pieces Y).length ≤ 16777216) (hq' : 2 * q < (pieces Y).length) (hy : y = (pieces Y).getD (2 * q) Str.empty)
    (hns : StrsAre ns st.1) (hb1 : st.1.length ≤ 1000000) (hb2 : st.2.length ≤ 1000000) (hi2l : i2.length ≤ 600) (hm : Held7 m j n tj tn u t1 t2 l D lim i1 i2)
    (mW : m (Str.ofString "words") = some (.ref W)) (mj : m (Str.ofString "j") = some (.int ((2 * q : Nat) : Int) t)) (mp : m (Str.ofString "partial") = some (.str st.2 tp))
    (hP : ∀ fl h' tk m' ns' c' tp', (fl = .next ∨ fl = .cont) → Fr h₀ L h' m' → News h₀ L h' [(I, o), (D, lst ns' c'), (W, lst wv), (l, lst vs)] →
      StrsAre ns' (wordStep lim i1 i2 st (y, decide (2 * q + 1 < (pieces Y).length) && ((pieces Y).getD (2 * q + 1) Str.empty != blank))).1 →
      Held7 m' j n tj tn u t1 t2 l D lim i1 i2 → m' (Str.ofString "words") = some (.ref W) → m' (Str.ofString "partial") = some (.str (wordStep lim i1 i2 st (y, decide (2 * q + 1 < (pieces Y).length) && ((pieces Y).getD (2 * q + 1) Str.empty != blank))).2 tp') →
      P fl ⟨h', ge, dr, tk, os⟩),
    wpAny (model PySem.Challenge.rw_sc0019_01.prog w) (A.deeper (envOf qual scope L 53 cdv)) (execs (turnOf body) (envOf qual scope L 53 cdv)) P (fun _ _ => False) ⟨h, ge, dr, tk₀, os⟩ := by
  intro w A h ge dr tk₀ os h₀ mg mb L I D W l o m ns wv vs c j n q tj tn u t1 t2 t tp lim i1 i2 Y y st P name qual params body scope dV kV doc pm cdv ct oc an od osl ho X₀ T₀ F N hDI hWD hlD hpc hYl hpl hq' hy hns hb1 hb2 hi2l hm mW mj mp hP
  exact para_turn (s := ⟨h, ge, dr, tk₀, os⟩) ho X₀ T₀ F N hDI hWD hlD hpc hYl hpl hq' hy hns hb1 hb2 hi2l hm mW mj mp hP
end
section
local macro_rules | `(tactic| walk_at "call ref") => `(tactic| first | (refine call_white (by k_asm) (by k_asm) (by k_asm) (by k_asm) (by show _ + 1 < _; omega) (by ktr_room) (fun h' tk' F' N' => ?_)) | (refine call_indent (by k_asm) (by k_asm) (by k_asm) (by k_asm) (by show _ + 1 < _; omega) (by ktr_room) (fun h' t' tk' F' N' => ?_)))
local macro_rules | `(tactic| ktr_rel) => `(tactic| first | assumption | exact get_here | (refine get_there (by decide) ?_; ktr_rel))
local macro_rules | `(tactic| ktr_room) => `(tactic| first | assumption | omega | (simp only [str_append_len, str_one, List.length_append, List.length_drop, List.length_cons, List.length_nil]; omega) | decide | ((with_reducible rename (∀ i : Nat, Str.length (List.getD _ i _) ≤ _) => hw'); exact Nat.le_trans (hw' _) (Nat.le_of_ble_eq_true rfl)))
local macro_rules | `(tactic| walk_at "eval Name") => `(tactic| (refine ld (by k_asm) (by ktr_rel) ?_))
set_option pp.maxSteps 1500 in
set_option maxHeartbeats 8000000 in
theorem code_para : ∀ {w : World} {A : Around} {s : Shared} {mg mb : Str → Option Value} {x : Str} {t u : Tok} {lim : Int} {R : Result → Shared → Prop}
    (X : (hd.heap_39 w.params).In s.heap) (T : TR mg mb s.heap) (hroom : A.depth + 5 < recursionLimit) (hh : A.handled = none) (hx : x.length ≤ 600)
    (hR : ∀ h' t' tk, s.heap.StaysIn h' → R (.ok (.ret (.str (para x lim) t'))) { s with heap := h', toks := tk }),
   codeAny (model PySem.Challenge.rw_sc0019_01.prog w) A (.call (.ref 53) ⟨[.str x t, .int lim u], []⟩) R s := by
  k_fill
  intro w A s mg mb x t u lim R X T hroom hh hx hR
  refine enter (news := []) X T (fun _ h => nomatch h) (by k_is) (by k_is) (by omega) (BindsTo.of_eq rfl) (locs rfl) (fun L h₁ F N => ?_)
  change Fr s.heap L h₁ (mp [(Str.ofString "limit", .int lim u), (Str.ofString "data", .str x t)]) at F
  change News s.heap L h₁ [] at N
  ktr_unf
  rename List (Str × Tok) => ls
  rename (List.map _ _ = Txt.split _ _) => hsp
  rename StrsAre _ _ => hstr
  rename (∀ a : Str, a ∈ _ → _) => hlen
  rename Fr _ _ _ _ => F'
  rename News _ _ _ _ => N'
  generalize h₁.objs.size = l at F' N'
  have hsp' : Txt.split x (Str.ofString "\n") = ls.map (·.1) := hsp.symm
  have hln : (ls.map (·.1)).length = ls.length := List.length_map _
  generalize hxs : ls.map (·.1) = xs at hsp hstr hlen hsp' hln
  generalize hvs : strValues ls = vs at hstr N'
  have hbx : xs.length ≤ 16777216 := by
    have := split_weight x (Str.ofString "\n") (Nat.le_refl 1)
    rw [hsp'] at this; omega
  have hwx : ∀ i : Nat, (xs.getD i Str.empty).length ≤ 600 := by
    intro i
    by_cases hi : i < xs.length
    · rw [List.getD_eq_getElem?_getD, List.getElem?_eq_getElem hi]; exact Nat.le_trans (hlen _ (List.getElem_mem hi)) hx
    · rw [List.getD_eq_getElem?_getD, List.getElem?_eq_none (Nat.le_of_not_lt hi)]; exact Nat.zero_le _
  rw [← hln] at F'
  have hvl : vs.length = xs.length := strsAre_length hstr
  generalize hm0 : (fun y => if y = Str.ofString "n" then _ else _ : Str → Option Value) = m0 at F'
  obtain ⟨t0, mi⟩ : ∃ t0, m0 (Str.ofString "i") = some (.int 0 t0) := ⟨_, by rw [← hm0]; rfl⟩
  obtain ⟨tn, mn⟩ : ∃ tn, m0 (Str.ofString "n") = some (.int (xs.length : Int) tn) := ⟨_, by rw [← hm0]; rfl⟩
  have ml : m0 (Str.ofString "lines") = some (.ref l) := by rw [← hm0]; rfl
  have md : m0 (Str.ofString "data") = some (.str x t) := by rw [← hm0]; rfl
  have mlim : m0 (Str.ofString "limit") = some (.int lim u) := by rw [← hm0]; rfl
  clear hm0
  refine endd (E := fun _ _ => False) (fun f s' => f = .next ∧ ∃ h' tk m' i ti, s' = { s with heap := h', toks := tk } ∧ Fr s.heap L h' m' ∧ News s.heap L h' [(l, lst vs)] ∧ i ≤ xs.length ∧ (∀ j, j < i → white (xs.getD j Str.empty) = true) ∧ (i < xs.length → white (xs.getD i Str.empty) = false) ∧
    m' (Str.ofString "i") = some (.int (i : Int) ti) ∧ m' (Str.ofString "n") = some (.int (xs.length : Int) tn) ∧ m' (Str.ofString "lines") = some (.ref l) ∧ m' (Str.ofString "data") = some (.str x t) ∧ m' (Str.ofString "limit") = some (.int lim u)) ?_ (fun _ _ h => h) ?_
  ·
    refine While_inv (fun k m news => ∃ i ti, k = xs.length - i ∧ i ≤ xs.length ∧ (∀ j, j < i → white (xs.getD j Str.empty) = true) ∧ m (Str.ofString "i") = some (.int (i : Int) ti) ∧ m (Str.ofString "n") = some (.int (xs.length : Int) tn) ∧ m (Str.ofString "lines") = some (.ref l) ∧ m (Str.ofString "data") = some (.str x t) ∧ m (Str.ofString "limit") = some (.int lim u) ∧ news = [(l, lst vs)])
      (n₀ := xs.length) F' N' ⟨0, t0, rfl, Nat.zero_le _, (fun j hj => absurd hj (Nat.not_lt_zero _)), mi, mn, ml, md, mlim, rfl⟩ ?_ PassesOwn.never
    rintro n m₁ news₁ h₁ tk₁ F₁ N₁ ⟨i, ti, rfl, hi, hw, mi, mn, ml, md, mlim, rfl⟩
    have hJ : True := trivial
    ktr_unf
    · rename white (xs.getD (i : Int).toNat Str.empty) = true => hwi
      rename Fr _ _ _ _ => F₂
      rename News _ _ _ _ => N₂
      refine WhileStep.intro F₂ N₂ (n' := xs.length - (i + 1)) (by omega) ⟨i + 1, _, rfl, by omega, fun j hj => ?_, get_here, get_there (by decide) mn, get_there (by decide) ml, get_there (by decide) md, get_there (by decide) mlim, rfl⟩
      rcases Nat.lt_succ_iff_lt_or_eq.mp hj with h | rfl
      · exact hw j h
      · simpa using hwi
    · rename white (xs.getD (i : Int).toNat Str.empty) = false => hwi
      exact ⟨rfl, _, _, _, i, ti, rfl, by assumption, by assumption, hi, hw, fun _ => by simpa using hwi, mi, mn, ml, md, mlim⟩
    · exact ⟨rfl, _, _, _, i, ti, rfl, F₁, N₁, hi, hw, fun h => absurd (Int.ofNat_lt.mpr h) (by assumption), mi, mn, ml, md, mlim⟩
  clear F' N' mi mn ml md mlim t0
  rintro f s' ⟨rfl, h₂, tk₂, m₂, i, ti, rfl, F, N, hi, hw, hwi, mi, mn, ml, md, mlim⟩
  back_in
  walk1
  (try dsimp only)
  back_in
  · have e := para_white (lim := lim) hsp' (fun j hj => hw j (by omega))
    rw [e] at hR
    exact hR _ _ _ (Fr.keep (by assumption))
  rename Fr _ _ _ _ => F3
  rename News _ _ _ _ => N3
  have hlt : i < xs.length := by omega
  obtain ⟨i2, hi2⟩ : ∃ i2, i2 = if i + 1 < xs.length ∧ white (xs.getD (i + 1) Str.empty) = false then indent (xs.getD (i + 1) Str.empty) else indent (xs.getD i Str.empty) := ⟨_, rfl⟩
  obtain ⟨i1, hi1⟩ : ∃ i1, i1 = indent (xs.getD i Str.empty) := ⟨_, rfl⟩
  rw [Int.toNat_natCast, ← hi1] at F3
  rw [← hi1] at hi2
  refine endd (E := fun _ _ => False) (fun f s' => f = .next ∧ ∃ h' tk m' t1 t2, s' = { s with heap := h', toks := tk } ∧ Fr s.heap L h' m' ∧ News s.heap L h' [(l, lst vs)] ∧
    m' (Str.ofString "i") = some (.int (i : Int) ti) ∧ m' (Str.ofString "n") = some (.int (xs.length : Int) tn) ∧ m' (Str.ofString "lines") = some (.ref l) ∧ m' (Str.ofString "limit") = some (.int lim u) ∧
    m' (Str.ofString "indent1") = some (.str i1 t1) ∧ m' (Str.ofString "indent2") = some (.str i2 t2)) ?_ (fun _ _ h => h) ?_
  ·
    ktr_unf
    all_goals (rename Fr _ _ _ _ => F4)
    all_goals (rename News _ _ _ _ => N4)
    · rename white _ = true => hz
      have e : i2 = i1 := by
        rw [show ((i : Int) + 1).toNat = i + 1 by omega] at hz
        rw [hi2, if_neg (by rw [hz]; simp)]
      refine ⟨rfl, _, _, _, _, _, rfl, F4, N4, by ktr_rel, by ktr_rel, by ktr_rel, by ktr_rel, by ktr_rel, (by rw [e]; ktr_rel)⟩
    · rename white _ = false => hz
      have e : i2 = indent (xs.getD ((i : Int) + 1).toNat Str.empty) := by
        rw [hi2, show ((i : Int) + 1).toNat = i + 1 by omega] at *
        exact if_pos ⟨by omega, hz⟩
      refine ⟨rfl, _, _, _, _, _, rfl, F4, N4, by ktr_rel, by ktr_rel, by ktr_rel, by ktr_rel, by ktr_rel, (by rw [e]; ktr_rel)⟩
    · have e : i2 = i1 := by rw [hi2, if_neg (by omega)]
      refine ⟨rfl, _, _, _, _, _, rfl, F4, N4, by ktr_rel, by ktr_rel, by ktr_rel, by ktr_rel, by ktr_rel, (by rw [e]; ktr_rel)⟩
  clear mi mn ml md mlim F3 N3
  rintro f s' ⟨rfl, h₂, tk₂, m₂, t1, t2, rfl, F, N, mi, mn, ml, mlim, m1, m2⟩
  ktr_unf
  rename Fr _ _ _ _ => F5
  rename News _ _ _ _ => N5
  rename Below _ _ => lD
  obtain ⟨D, eD, lD⟩ := lD.named
  subst eD
  have hD : D ≠ l := Ne.symm (lD.ne (l, lst vs) (List.mem_singleton.mpr rfl))
  obtain ⟨G, hG⟩ : ∃ G : Nat → List Str × Str, ∀ j, G j = ((xs.drop i).take (j - i)).foldl (lineStep lim i1 i2) (xs.take i, i1) := ⟨_, fun _ => rfl⟩
  have hi1l : i1.length ≤ 600 := by rw [hi1]; exact Nat.le_trans (indent_len _) (hwx i)
  have hi2l : i2.length ≤ 600 := by
    rw [hi2]
    split
    · exact Nat.le_trans (indent_len _) (hwx _)
    · exact hi1l
  have hGp : ∀ j, pot (G j) ≤ 370000 := fun j => by rw [hG]; exact run_pot hsp' hx hi1l hi2l
  refine endd (E := fun _ _ => False) (fun f s' => f = .next ∧ ∃ h' tk m' j tj ns c tp, s' = { s with heap := h', toks := tk } ∧ Fr s.heap L h' m' ∧ News s.heap L h' [(D, lst ns c), (l, lst vs)] ∧
    i ≤ j ∧ j ≤ xs.length ∧ (∀ q, i ≤ q → q < j → white (xs.getD q Str.empty) = false) ∧ (j < xs.length → white (xs.getD j Str.empty) = true) ∧ StrsAre ns (G j).1 ∧
    m' (Str.ofString "i") = some (.int (j : Int) tj) ∧ m' (Str.ofString "lines") = some (.ref l) ∧ m' (Str.ofString "new") = some (.ref D) ∧ m' (Str.ofString "partial") = some (.str (G j).2 tp)) ?_ (fun _ _ h => h) ?_
  · refine While_inv (fun k m news => ∃ j tj ns c tp, k = xs.length - j ∧ i ≤ j ∧ j ≤ xs.length ∧ (∀ q, i ≤ q → q < j → white (xs.getD q Str.empty) = false) ∧ StrsAre ns (G j).1 ∧
        m (Str.ofString "i") = some (.int (j : Int) tj) ∧ m (Str.ofString "n") = some (.int (xs.length : Int) tn) ∧ m (Str.ofString "lines") = some (.ref l) ∧ m (Str.ofString "limit") = some (.int lim u) ∧
        m (Str.ofString "indent1") = some (.str i1 t1) ∧ m (Str.ofString "indent2") = some (.str i2 t2) ∧ m (Str.ofString "new") = some (.ref D) ∧ m (Str.ofString "partial") = some (.str (G j).2 tp) ∧ news = [(D, lst ns c), (l, lst vs)])
      (n₀ := xs.length - i) F5 N5 ⟨i, ti, vs.take i, 0, t1, rfl, Nat.le_refl _, hi, (fun q h1 h2 => absurd h1 (Nat.not_le_of_lt h2)), by rw [hG, Nat.sub_self]; exact hstr.take' i, by ktr_rel, by ktr_rel, by ktr_rel, by ktr_rel, by ktr_rel, by ktr_rel, by ktr_rel, by rw [hG, Nat.sub_self]; ktr_rel, rfl⟩ ?_ PassesOwn.never
    clear F5 N5 mi mn ml mlim m1 m2
    rintro k m₁ news₁ h₁ tk₁ F₁ N₁ ⟨j, tj, ns₀, c₀, tp, rfl, hij, hjn, hnw, hns, mi, mn, ml, mlim, m1, m2, mw, mp, rfl⟩
    ktr_unf
    · rename white _ = true => hz
      rw [Int.toNat_natCast] at hz
      exact ⟨rfl, _, _, _, j, tj, ns₀, c₀, tp, rfl, by assumption, by assumption, hij, hjn, hnw, (fun _ => hz), hns, mi, ml, mw, mp⟩
    · rename Fr _ _ _ _ => F6
      rename News _ _ _ _ => N6
      rename Below _ _ => lW
      obtain ⟨W, eW, lW⟩ := lW.named
      subst eW
      rename StrsAre _ (pieces _) => hpc
      rename white _ = false => hwj
      rename List Value => wv
      obtain ⟨Y, hY⟩ : ∃ Y, Y = xs.getD j Str.empty := ⟨_, rfl⟩
      simp only [Int.toNat_natCast, ← hY] at hpc hwj
      have hYl : Y.length ≤ 600 := hY ▸ hwx j
      have hpl : (pieces Y).length ≤ 16777216 := by
        have : (pieces Y).length ≤ 2 * (Y.cps.size + 1) + 1 := piecesFrom_len _ _ _
        have : Y.cps.size ≤ 600 := hYl
        omega
      obtain ⟨H, hH⟩ : ∃ H : Nat → List Str × Str, ∀ q, H q = ((wordsOf (pieces Y)).take q).foldl (wordStep lim i1 i2) (G j) := ⟨_, fun _ => rfl⟩
      have hpot : ∀ q, pot (H q) ≤ 1000000 := fun q => by
        rw [hH]
        have h1 := take_pot (lim := lim) (i1 := i1) hi2l (G j) Y q
        have h2 := hGp j
        omega
      have N6' : News s.heap L _ [(D, lst ns₀ c₀), (W, lst wv), (l, lst vs)] := News.sub N6 (by simp)
      refine endd (E := fun _ _ => False) (fun f s' => f = .next ∧ ∃ h' tk m' ns c tp, s' = { s with heap := h', toks := tk } ∧ Fr s.heap L h' m' ∧ News s.heap L h' [(D, lst ns c), (l, lst vs)] ∧ StrsAre ns (lineStep lim i1 i2 (G j) Y).1 ∧
        m' (Str.ofString "i") = some (.int (j : Int) tj) ∧ m' (Str.ofString "n") = some (.int (xs.length : Int) tn) ∧ m' (Str.ofString "lines") = some (.ref l) ∧ m' (Str.ofString "limit") = some (.int lim u) ∧
        m' (Str.ofString "indent1") = some (.str i1 t1) ∧ m' (Str.ofString "indent2") = some (.str i2 t2) ∧ m' (Str.ofString "new") = some (.ref D) ∧ m' (Str.ofString "partial") = some (.str (lineStep lim i1 i2 (G j) Y).2 tp)) ?_ (fun _ _ h => h) ?_
      · refine For_range (h₀ := s.heap) (n := (wordsOf (pieces Y)).length) (a := 0) (b := ((pieces Y).length : Int)) (c := 2) (fun q m news => ∃ ns c tp, StrsAre ns (H q).1 ∧ m (Str.ofString "words") = some (.ref W) ∧ 
            m (Str.ofString "i") = some (.int (j : Int) tj) ∧ m (Str.ofString "n") = some (.int (xs.length : Int) tn) ∧ m (Str.ofString "lines") = some (.ref l) ∧ m (Str.ofString "limit") = some (.int lim u) ∧
            m (Str.ofString "indent1") = some (.str i1 t1) ∧ m (Str.ofString "indent2") = some (.str i2 t2) ∧ m (Str.ofString "new") = some (.ref D) ∧ m (Str.ofString "partial") = some (.str (H q).2 tp) ∧ news = [(D, lst ns c), (W, lst wv), (l, lst vs)])
          hh ?_ ?_ ?_ ?_ ?_
        · exact small_of hpl
        · rw [words_len]; exact size_of _
        · refine endv ?_
          ktr_unf
          rename Fr _ _ _ _ => F8
          rename News _ _ _ _ => N8
          exact ⟨_, _, _, _, _, _, _, _, rfl, rfl, F8, N8, by assumption, ns₀, c₀, tp, by rw [hH]; exact hns, by ktr_rel, by ktr_rel, by ktr_rel, by ktr_rel, by ktr_rel, by ktr_rel, by ktr_rel, by ktr_rel, by rw [hH]; ktr_rel, rfl⟩
        · rintro q t m₁ news₁ h₁ tk₁ I o hq ⟨ns, c, tp, hns, mW, mi, mn, ml, mlim, m1, m2, mw, mp, rfl⟩ F₁ N₁ hd
          have hq' : 2 * q < (pieces Y).length := by rw [words_len] at hq; omega
          rw [show (0 + (q : Int) * 2) = ((2 * q : Nat) : Int) by omega]
          have hpq := hpot q
          have hDI : D ≠ I := hd _ (List.mem_singleton.mpr rfl) (D, lst ns c) (.head _)
          have hWD : W ≠ D := Ne.symm (lW.ne (D, lst ns₀ c₀) (.head _))
          have hlD : l ≠ D := Ne.symm hD
          have hWI : W ≠ I := hd _ (List.mem_singleton.mpr rfl) (W, lst wv) (.tail _ (.head _))
          have hlI : l ≠ I := hd _ (List.mem_singleton.mpr rfl) (l, lst vs) (.tail _ (.tail _ (.head _)))
          have hd' : ∀ (ns : List Value) (c : Nat), ∀ p ∈ [(I, o)], ∀ q ∈ [(D, lst ns c), (W, lst wv), (l, lst vs)], q.1 ≠ p.1 := by
            intro ns c p hp q hq
            rw [List.mem_singleton.mp hp]
            rcases List.mem_cons.mp hq with rfl | hq
            · exact hDI
            rcases List.mem_cons.mp hq with rfl | hq
            · exact hWI
            · rw [List.mem_singleton.mp hq]; exact hlI
          have F₁' : Fr s.heap L h₁ m₁ := F₁
          have N₁' : News s.heap L h₁ [(I, o), (D, lst ns c), (W, lst wv), (l, lst vs)] := N₁
          clear F₁ N₁
          walk1
          (try dsimp only)
          walk1
          (try dsimp only)
          rename Fr _ _ _ _ => F7
          rename News _ _ _ _ => N7
          refine para_turn' (by k_is) X T F7 N7 hDI hWD hlD hpc hYl hpl hq' rfl hns (by unfold pot at hpq; omega) (by unfold pot at hpq; omega) hi2l ⟨by ktr_rel, by ktr_rel, by ktr_rel, by ktr_rel, by ktr_rel, by ktr_rel, by ktr_rel⟩ (by ktr_rel) (by ktr_rel) (by ktr_rel) ?_
          rintro fl h' tk m' ns' c' tp' hfl F N hns' ⟨mi, mn, ml, mlim, m1, m2, mw⟩ mW mp
          rw [hH q, ← words_step hq' rfl, ← hH] at hns' mp
          rcases hfl with rfl | rfl
          · exact Turned.next F N (hd' ns' c') ⟨ns', c', tp', hns', mW, mi, mn, ml, mlim, m1, m2, mw, mp, rfl⟩
          · exact Turned.cont F N (hd' ns' c') ⟨ns', c', tp', hns', mW, mi, mn, ml, mlim, m1, m2, mw, mp, rfl⟩
        · rintro m' news' h' tk ⟨ns, c, tp, hns, mW, mi, mn, ml, mlim, m1, m2, mw, mp, rfl⟩ F₁ N₁
          refine ⟨rfl, _, _, _, ns, c, tp, rfl, F₁, News.sub N₁ (by simp), ?_, mi, mn, ml, mlim, m1, m2, mw, ?_⟩
          · rw [hH, List.take_length] at hns; exact hns
          · rw [hH, List.take_length] at mp; exact mp
      · rintro f s' ⟨rfl, h₄, tk₄, m₄, ns, c, tp, rfl, F, N, hns, mi, mn, ml, mlim, m1, m2, mw, mp⟩
        have hGs : lineStep lim i1 i2 (G j) Y = G (j + 1) := by
          have e : (xs.drop i)[j - i]? = some Y := by
            rw [List.getElem?_drop, show i + (j - i) = j by omega, hY, List.getD_eq_getElem?_getD, List.getElem?_eq_getElem (by omega)]; rfl
          rw [hG, hG, show j + 1 - i = (j - i) + 1 by omega, fold_take _ _ _ _ e]
        rw [hGs] at hns mp
        ktr_unf
        rename Fr _ _ _ _ => F9
        rename News _ _ _ _ => N9
        refine WhileStep.intro F9 N9 (n' := xs.length - (j + 1)) (by omega) ⟨j + 1, _, ns, c, tp, rfl, by omega, by omega, (fun q h1 h2 => ?_), hns, get_here, by ktr_rel, by ktr_rel, by ktr_rel, by ktr_rel, by ktr_rel, by ktr_rel, by ktr_rel, rfl⟩
        rcases Nat.lt_succ_iff_lt_or_eq.mp h2 with h | rfl
        · exact hnw q h1 h
        · rw [← hY]; exact hwj
    · exact ⟨rfl, _, _, _, j, tj, ns₀, c₀, tp, rfl, F₁, N₁, hij, hjn, hnw, (fun h => absurd (Int.ofNat_lt.mpr h) (by assumption)), hns, mi, ml, mw, mp⟩
  clear F5 N5 mi mn ml mlim m1 m2
  rintro f s' ⟨rfl, h₃, tk₃, m₃, k, tk, ns, c, tp, rfl, F, N, hik, hkn, hnw, hwk, hns, mi, ml, mw, mp⟩
  have hGk := hGp k
  have hpl : (G k).2.length ≤ 370000 := by unfold pot at hGk; omega
  have hnsl : ns.length ≤ 370000 := by have := strsAre_length hns; unfold pot at hGk; omega
  have hlw : lens xs + xs.length ≤ x.length + 1 := by
    have := split_weight x (Str.ofString "\n") (Nat.le_refl 1)
    rw [hsp'] at this; exact this
  have hjw : (((G k).1 ++ [Txt.rstrip (G k).2] ++ xs.drop k).map (·.length)).sum + ((G k).1 ++ [Txt.rstrip (G k).2] ++ xs.drop k).length ≤ 1048576 := by
    have h1 := len_rstrip (G k).2
    have h2 := lens_drop xs k
    have e : (((G k).1 ++ [Txt.rstrip (G k).2] ++ xs.drop k).map (·.length)).sum = lens ((G k).1 ++ [Txt.rstrip (G k).2] ++ xs.drop k) := rfl
    rw [e, lens_append, lens_append, lens_cons, lens_nil, List.length_append, List.length_append, List.length_drop, List.length_singleton]
    unfold pot at hGk
    omega
  ktr_unf
  have e := para_is (lim := lim) hsp' hlt hw (hwi hlt) hik hkn hnw hwk hi1 hi2 (hG k)
  rw [e] at hR
  exact hR _ _ _ (Fr.keep (by assumption))
end
section
theorem lens_takeWhile (p : Str → Bool) : ∀ l : List Str, lens (l.takeWhile p) ≤ lens l
  | [] => Nat.le_refl _
  | a :: r => by
    rw [List.takeWhile_cons]
    have := lens_takeWhile p r
    split
    · rw [lens_cons, lens_cons]; omega
    · rw [lens_nil]; omega
theorem mem_len {z : Str} : ∀ {l : List Str}, z ∈ l → z.length ≤ lens l
  | a :: r, h => by
    rw [lens_cons]
    rcases List.mem_cons.mp h with rfl | h
    · omega
    · have := mem_len h; omega
theorem paraLines_len {ls : List Str} (lim : Int) (h : lens ls + ls.length ≤ 601) : lens (paraLines ls lim) + (paraLines ls lim).length ≤ 400000 := by
  unfold paraLines
  cases hr : runOf ls with
  | nil => dsimp only; omega
  | cons y r =>
    dsimp only
    have hl : lens (y :: r) ≤ lens ls := by
      rw [← hr]; unfold runOf
      exact Nat.le_trans (lens_takeWhile _ _) (lens_drop _ _)
    have hone : 1 ≤ ls.length := by
      cases ls with
      | nil => simp [runOf] at hr
      | cons a b => rw [List.length_cons]; omega
    have h1 : (indent y).length ≤ 600 := by
      have := indent_len y
      have := mem_len (List.mem_cons_self (a := y) (l := r))
      omega
    have h2 : (ind2 (indent y) r).length ≤ 600 := by
      cases r with
      | nil => exact h1
      | cons z q =>
        have := indent_len z
        have := mem_len (List.mem_cons_of_mem y (List.mem_cons_self (a := z) (l := q)))
        show (indent z).length ≤ 600
        omega
    have hp := lines_pot (lim := lim) (i1 := indent y) h2 (y :: r) (ls.take (whites ls), indent y)
    generalize (y :: r).foldl (lineStep lim (indent y) (ind2 (indent y) r)) (ls.take (whites ls), indent y) = st at hp
    have h3 := len_rstrip st.2
    have h4 := lens_drop ls (whites ls + (y :: r).length)
    have h5 := lens_take ls (whites ls)
    have h6 : (ls.take (whites ls)).length ≤ ls.length := by rw [List.length_take]; omega
    have h7 : (ls.drop (whites ls + (y :: r).length)).length ≤ ls.length := by rw [List.length_drop]; omega
    rw [lens_append, lens_append, lens_cons, lens_nil, List.length_append, List.length_append, List.length_singleton]
    unfold pot at hp
    dsimp only at hp
    omega
theorem join_len (l : List Str) : (Txt.join nl l).length ≤ lens l + l.length := by
  have := StrLaws.join_length_le nl l
  have e : nl.length = 1 := rfl
  rw [e] at this
  unfold lens
  have e2 : Txt.join nl l = Str.join nl l := eq_of_beq (join_plain_closes nl l)
  rw [e2]; omega
theorem para_len {x : Str} (lim : Int) (hx : x.length ≤ 600) : (para x lim).length ≤ 400000 := by
  have hw := split_weight x nl (Nat.le_refl 1)
  have hw' : lens (Txt.split x nl) + (Txt.split x nl).length ≤ x.length + 1 := hw
  unfold para
  split
  · exact Nat.le_trans (join_len _) (paraLines_len lim (by omega))
  · omega
section
variable {w : World} {A : Around} {E : Value → Shared → Prop} {s : Shared} {h₀ : Heap} {L : Addr} {m mg mb : Str → Option Value} {news : List (Addr × Obj)}
theorem call_para {x : Str} {t u : Tok} {lim : Int} {Q : Value → Shared → Prop} (F : Fr h₀ L s.heap m) (N : News h₀ L s.heap news) (X₀ : (hd.heap_39 w.params).In h₀) (T₀ : TR mg mb h₀) (hroom : A.depth + 5 < recursionLimit) (hh : A.handled = none) (hx : x.length ≤ 600)
    (h : ∀ h' t' tk, Fr h₀ L h' m → News h₀ L h' news → Q (.str (para x lim) t') { s with heap := h', toks := tk }) : wpAny (model PySem.Challenge.rw_sc0019_01.prog w) A (call (.ref 53) [.str x t, .int lim u] []) Q E s :=
  wpAny_call (code_para (X₀.keeps F.keep) (T₀.keeps F.keep) hroom hh hx fun h' t' tk k => h h' t' tk (Fr.ext F k) (News.ext N k))
end
end
section
/-- entering a def of the text that has cells -/
theorem enterC {w : World} {A : Around} {s : Shared} {mg mb : Str → Option Value} {news : List (Addr × Obj)} {K : Frag} {R : Result → Shared → Prop}
    {name qual : Str} {params : Arguments} {body : List Stmt} {scope : Scope} {dV kV doc pm cdv ct oc : Value} {an od : Option Addr} {osl : Array (Option Value)} {f : Addr} {args : Args} {binds : List (Str × Value)}
    (X : K.In s.heap) (T : TR mg mb s.heap) (hN : ∀ p ∈ news, s.heap.get? p.1 = some p.2)
    (ho : K.lookup f = some ⟨oc, od, .func (fnOf name qual params body scope dV kV doc pm an cdv ct), osl⟩) (hcd : codeIn K cdv qual = true) (hroom : A.depth < recursionLimit)
    (hbind : BindsTo s (fnOf name qual params body scope dV kV doc pm an cdv ct) args binds) (hkind : (binds.all fun y => scope.names.lookup y.1 == some .local || scope.names.lookup y.1 == some .cell) = true)
    (hnd : ((cellsFrom 0 scope.names []).map (·.1)).Nodup)
    (h : ∀ L h₁ tk cells, Fr (hideAll s.heap (news.map (·.1))) L h₁ (bindL (envOfC qual scope L f cdv).kindOf binds fun _ => none) → News (hideAll s.heap (news.map (·.1))) L h₁ (cells ++ news) →
      CellsAre (bindC (envOfC qual scope L f cdv).kindOf binds fun _ => none) (cellsFrom (L + 1) scope.names []) cells →
      wpAny (model PySem.Challenge.rw_sc0019_01.prog w) (A.deeper (envOfC qual scope L f cdv)) (execs body (envOfC qual scope L f cdv))
        (fun fl s' => R (.ok (.ret (match fl with | .ret v => v | _ => .none))) s') (fun _ _ => False) { s with heap := h₁, toks := tk })
    (hco : scope.isCoroutine = false := by rfl) (hgen : scope.isGenerator = false := by rfl) (hk : scope.kind = .function := by rfl) : codeAny (model PySem.Challenge.rw_sc0019_01.prog w) A (.call (.ref f) args) R s := by
  refine codeAny_call_function (fd := fnOf name qual params body scope dV kV doc pm an cdv ct) hroom (X _ _ ho) rfl hco hgen rfl (codeRec_of X hcd) (hbind _ _ _ _ ?_)
  refine wpAny_newFunctionEnv_cells hk (kindsX hkind _) fun env' he s' x => ?_
  subst he
  refine ⟨T.nolimit.keeps x.toInCall.keep, codeAny_func ?_⟩
  obtain ⟨h₁, tk, rfl, _⟩ := x.done
  have hk₁ := x.toInCall.keep
  obtain ⟨cells, NC, Y⟩ := Cl.news (h₀ := s.heap) (Nat.le_refl _) fun n c hm => ⟨x.cell n c (lookup_of_mem_nodup (cellsFrom_names scope.names 0 (s.heap.objs.size + 1) [] [] rfl ▸ hnd) hm), x.above n c hm⟩
  refine wpAny_mono (h s.heap.objs.size h₁ tk cells ⟨x.toInCall.ns, fun b o e => hk₁ b o (of_hideAll _ e), Nat.le_of_eq (hideAll_size _ _)⟩ (fun p hp => ?_) Y) (fun fl s' hl => hl) fun _ _ y => y.elim
  rcases List.mem_append.mp hp with hp | hp
  · refine ⟨(NC p hp).1, (NC p hp).2.1, ?_⟩
    cases q : (hideAll s.heap (news.map (·.1))).get? p.1 with
    | none => rfl
    | some o => have := of_hideAll _ q; rw [(NC p hp).2.2] at this; cases this
  · exact ⟨hk₁ _ _ (hN p hp), Nat.ne_of_lt (Heap.lt_size (hN p hp)), hideAll_none _ (List.mem_map_of_mem hp)⟩

section
variable {prog : Program} {w : World} {A : Around} {E : Value → Shared → Prop} {s : Shared} {h₀ : Heap} {L a : Addr} {m mg mb : Str → Option Value} {news : List (Addr × Obj)} {cn : Str} {cs : Scope} {ccd : Value} {x : Str} {v : Value} {pos : Pos} {K : Frag}
theorem c_local {Q : Value → Shared → Prop} (F : Fr h₀ L s.heap m) (hv : m x = some v) (h : Q v s)
    (hk : cs.kind = .function := by rfl) (hx : (envOfC cn cs L a ccd).kindOf x = some .local := by rfl) (hd : (x == ("__debug__" : Str)) = false := by decide) :
    wpAny (model prog w) A (eval (.Name x pos) (envOfC cn cs L a ccd)) Q E s := wpAny_Name (wpAny_loadName_local hk hx F.ns hv h) hd
theorem c_cell {Q : Value → Shared → Prop} {c : Addr} {o : Obj} (N : News h₀ L s.heap news) (hm : (c, o) ∈ news) (hd : o.data = .cell (some v)) (h : Q v s)
    (hc : (cellsFrom (L + 1) cs.names []).lookup x = some c := by rfl) (hk : cs.kind = .function := by rfl) (hx : (envOfC cn cs L a ccd).kindOf x = some .cell := by rfl) (hb : (x == ("__debug__" : Str)) = false := by decide) :
    wpAny (model prog w) A (eval (.Name x pos) (envOfC cn cs L a ccd)) Q E s := wpAny_Name (wpAny_loadName_cell hk hx hc ⟨o, News.get N hm, hd⟩ h) hb
theorem c_builtin {Q : Value → Shared → Prop} {p : Program} {loose : List Str} (F : Fr h₀ L s.heap m) (X : K.In h₀) (T : TopRead p loose mg mb h₀) (e : nsIn K mainGlobals x = some none) (hv : bootBuiltins x = some v) (h : Q v s)
    (hn : x ≠ "__name__" := by decide) (hk : cs.kind = .function := by rfl) (hx : (envOfC cn cs L a ccd).kindOf x = some .globalImplicit := by rfl) (hd : (x == ("__debug__" : Str)) = false := by decide) :
    wpAny (model prog w) A (eval (.Name x pos) (envOfC cn cs L a ccd)) Q E s :=
  Name_function_global hk hx (loadGlobal_builtin (env := envOfC cn cs L a ccd) (T.g.keeps F.keep) (mg_none_of X T.g e) (T.b.keeps F.keep) ((T.builtins x hn).trans hv) h) hd
theorem c_store {Q : Unit → Shared → Prop} (F : Fr h₀ L s.heap m) (N : News h₀ L s.heap news)
    (h : ∀ h' tk, Fr h₀ L h' (fun y => if y = x then some v else m y) → News h₀ L h' news → Q () { s with heap := h', toks := tk })
    (hk : cs.kind = .function := by rfl) (hx : (envOfC cn cs L a ccd).kindOf x = some .local := by rfl) : wpAny (model prog w) A (storeName (envOfC cn cs L a ccd) x v) Q E s :=
  storeX_L (cl := cellsFrom (L + 1) cs.names []) F N (fun h' => h h' _) hk hx
theorem c_storeC {Q : Unit → Shared → Prop} {c : Addr} {o : Obj} {v₀ : Option Value} {rest : List (Addr × Obj)} (F : Fr h₀ L s.heap m) (N : News h₀ L s.heap ((c, o) :: rest)) (hap : ∀ p ∈ rest, p.1 ≠ c) (hd : o.data = .cell v₀)
    (h : ∀ h' o', Fr h₀ L h' m → News h₀ L h' ((c, o') :: rest) → o'.data = .cell (some v) → Q () { s with heap := h' })
    (hc : (cellsFrom (L + 1) cs.names []).lookup x = some c := by rfl) (hk : cs.kind = .function := by rfl) (hx : (envOfC cn cs L a ccd).kindOf x = some .cell := by rfl) : wpAny (model prog w) A (storeName (envOfC cn cs L a ccd) x v) Q E s :=
  storeX_C (cl := cellsFrom (L + 1) cs.names []) F N hc (UpdF.head hap) hd h hk hx
theorem c_global {Q : Value → Shared → Prop} {p : Program} {loose : List Str} (F : Fr h₀ L s.heap m) (X : K.In h₀) (T : TopRead p loose mg mb h₀) (e : nsIn K mainGlobals x = some (some v)) (h : Q v s)
    (hk : cs.kind = .function := by rfl) (hx : (envOfC cn cs L a ccd).kindOf x = some .globalImplicit := by rfl) (hd : (x == ("__debug__" : Str)) = false := by decide) :
    wpAny (model prog w) A (eval (.Name x pos) (envOfC cn cs L a ccd)) Q E s := nameX_K (cl := cellsFrom (L + 1) cs.names []) F X T e h hk hx hd
end
end
section
/-- the new lines without an empty last one, and what then stands behind -/
def endsEmpty (nd : List Str) : Bool := (nd.getLast?.getD Str.empty).length == 0
def cutLast (nd : List Str) : List Str := if endsEmpty nd then nd.dropLast else nd
def sfx (nd : List Str) : Str := if endsEmpty nd then nl else Str.ofString ""
theorem endsEmpty_snoc (l : List Str) (z : Str) : endsEmpty (l ++ [z]) = (z.length == 0) := by unfold endsEmpty; simp
theorem cutLast_snoc (l : List Str) (z : Str) : cutLast (l ++ [z]) = if z.length = 0 then l else l ++ [z] := by
  unfold cutLast
  rw [endsEmpty_snoc]
  by_cases h : z.length = 0
  · simp [h]
  · simp [h]
theorem sfx_snoc (l : List Str) (z : Str) : sfx (l ++ [z]) = if z.length = 0 then nl else Str.ofString "" := by
  unfold sfx
  rw [endsEmpty_snoc]
  by_cases h : z.length = 0
  · simp [h]
  · simp [h]
/-- what reformat_comment gives -/
def stripped (x y : Str) : Str := Txt.join (Str.ofString "\n") ((Txt.split x (Str.ofString "\n")).map fun z => Txt.slice z (some (y.length : Int)) none)
def setLines (x y : Str) (lim : Int) : List Str := Txt.split (para (stripped x y) (if (20 : Int) > lim - (y.length : Int) then 20 else lim - (y.length : Int))) (Str.ofString "\n")
def comment (x y : Str) (lim : Int) : Str := Txt.join (Str.ofString "\n") ((cutLast (setLines x y lim)).map fun z => y ++ z) ++ sfx (setLines x y lim)
end
section
theorem news_regrown {h₁ h₀ h h' : Heap} {c P L : Addr} {ps ps' : Array Value} {news : List (Addr × Obj)} (B : Based h₁ h₀ c P ps) (N : News h₀ L h news) (hk : ∀ b o, b ≠ P → h.get? b = some o → h'.get? b = some o) : News (regrown h₀ P ps') L h' news := by
  intro p hp
  obtain ⟨a, b, e⟩ := N p hp
  have hP : p.1 ≠ P := by
    intro q
    rw [q, B.tab.2] at e; cases e
  exact ⟨hk _ _ hP a, b, (Heap.get?_update_other _ _ (Ne.symm hP)).trans e⟩

section
variable {prog : Program} {w : World} {A : Around} {E : Value → Shared → Prop} {s : Shared} {h₁ h₀ : Heap} {c P L : Addr} {ps : Array Value} {m mg : Str → Option Value} {bm : Addr} {ob : Obj}
theorem gen_strs {env : Env} {elt iter : Expr} {x : Str} {px : Pos} {scope : Scope} {cl : List (Str × Addr)} {pos : Pos} {Q : Value → Shared → Prop} (f : Str → Str)
    (B : Based h₁ h₀ c P ps) (M : BMod h₀ env.globals mg bm ob) (hcode : env.code = .ref c) (hnf : codeAmong pos ps.toList = none)
    (hh : A.handled = none) (hco : scope.isCoroutine = false) (hclos : closureFor scope env = pure cl) (hcell : ∀ y ∈ scope.names, y.2 ≠ .cell) (h0 : scope.names.lookup (".0" : Str) = some NameKind.local)
    (hx : scope.names.lookup x = some .local) (hkind : scope.kind = .function) (hroom : A.depth < recursionLimit)
    (h : wpAny (model prog w) A (eval iter env) (fun xv s₁ => ∃ l vs n xs news, xv = .ref l ∧ (l, lst vs n) ∈ news ∧ StrsAre vs xs ∧ Fr h₀ L s₁.heap m ∧ News h₀ L s₁.heap news ∧ AllBare s₁.gens ∧ s₁.heap.NoLimit ∧
        (∀ (c' C : Addr) (A' : Around) E' (z : Str) (t : Tok) (u : Shared) m₂, A'.handled = none → A'.depth ≤ A.depth + 1 → z ∈ xs → Fr (regrown h₀ P (ps ++ #[rawInt pos.line, rawInt pos.col, .ref c'])) C u.heap m₂ → m₂ x = some (.str z t) → L < C →
          (∀ b o, b ≠ P → s₁.heap.get? b = some o → u.heap.get? b = some o) →
          wpAny (model prog w) A' (eval elt (genEnv scope cl C (.ref c') builtinsNs env)) (fun y s₃ => (∃ t', y = .str (f z) t') ∧ Keeps u s₃) E' u) ∧
        (∀ (ps' : Array Value) (a : Addr) (s₅ : Shared) (Kb : Addr), Based h₁ (regrown h₀ P ps') c P ps' → Fr (regrown h₀ P ps') L s₅.heap m → News (regrown h₀ P ps') L s₅.heap news → AllBare s₅.gens → s₅.os = s₁.os →
          (∃ c', ps' = ps ++ #[rawInt pos.line, rawInt pos.col, .ref c']) → L ≤ Kb → (∀ p ∈ news, @LE.le Nat _ p.1 Kb) → GenOnD prog w A Kb a xs (fun _ => true) (fun z => .str (f z)) s₅ → Q (.ref a) s₅)) E s)
    (hs : ∀ x, genFold iter env x = pure x) :
    wpAny (model prog w) A (eval (.GeneratorExp elt [⟨.Name x px, iter, [], 0⟩] scope pos) env) Q E s := by
  refine GeneratorExp_DF (L := L) (m := m) (K := ItemKind.str) (pz := fun _ => true) (d := fun z => .str (f z)) B M hcode hnf hh hco hclos hcell h0 hx hkind hroom (wpAny_mono h (fun xv s₁ h₁' => ?_) fun _ _ e => e) hs
  obtain ⟨l, vs, n, xs, news, e, hm, hst, F, N, G, hlim, g2, g3⟩ := h₁'
  refine ⟨l, vs, xs, s₁.heap.objs.size - 1, e, isList_of N hm, hst.areOf, F, G, hlim, Fr.kb1 F, Fr.kb2 F, ?_, ?_, ?_⟩
  · intro c' C A' E' z v u m₂ hA hD hU hz hv F₂ hm₂ hLC hk
    exact wpAny_pure ⟨rfl, ⟨u.heap, u.toks, rfl, fun _ _ e => e⟩⟩
  · rintro c' C A' E' z v u m₂ hA hD hU hz ⟨t, rfl⟩ _ F₂ hm₂ hLC hk
    refine wpAny_mono (g2 c' C A' E' z t u m₂ hA hD hz F₂ hm₂ hLC hk) (fun y s₃ r => ?_) fun _ _ e => e
    obtain ⟨⟨t', rfl⟩, k⟩ := r
    exact ⟨.str _ _, k⟩
  · intro c' a s₅ B' F' G' hos hk X
    have N' : News (regrown h₀ P (ps ++ #[rawInt pos.line, rawInt pos.col, .ref c'])) L s₅.heap news := news_regrown B N hk
    exact g3 _ a s₅ _ B' F' N' G' hos ⟨c', rfl⟩ (Fr.kb1 F) (fun p hp => Nat.le_sub_one_of_lt (Heap.lt_size (N p hp).1)) X
theorem slice_keep {value slice : Expr} {g : Heap} {z : Str} {t : Tok} {i : Int} {ui : Tok} {hp : Heap} {ge : _} {dr : _} {tk : Nat} {os : _} {Q : Value → Shared → Prop} (hI : g.StaysIn hp)
    (h : ∀ h' t' k, g.StaysIn h' → Q (.str (Txt.slice z (some i) none) t') ⟨h', ge, dr, k, os⟩) (hz : z.length ≤ 16777216)
    (hs : subscripted slice false (.str z t) (.ref hp.objs.size) = operate [.ref hp.objs.size, .str z t] (getItem (.str z t) (.ref hp.objs.size)) := by with_unfolding_all rfl)
    (ht : ∀ r, letTemporaryGo value (.str z t) r = pure () := by intro _; with_unfolding_all rfl) :
    wpAny (model prog w) A (subscriptTail value slice (.str z t) (.ref hp.objs.size)) Q E ⟨hp.push { cls := .type "slice", data := .fields #[.int i ui, .none, .none] }, ge, dr, tk, os⟩ :=
  tail_of_ItemOn (SBH.sliceItem_sn (s := ⟨hp, ge, dr, tk, os⟩) (P := fun h => g.StaysIn h) (fun _ ob a b o e => Heap.get?_push_of_some _ (a b o e)) hI h (by rw [sizeLine_eq]; exact hz)) hs ht
end
theorem classed : ∀ {w : World} {h : Heap} (X : (hd.heap_39 w.params).In h) (_ : PySem.Challenge.rw_sc0019_01.prog = PySem.Challenge.rw_sc0019_01.prog), kb_classed (hd.heap_39 w.params) = true := by
  k_fill
  intro w h X _
  rfl
theorem lens_map_le {f : Str → Str} {n : Nat} : ∀ xs : List Str, (∀ z ∈ xs, (f z).length ≤ n) → lens (xs.map f) ≤ n * xs.length
  | [], _ => Nat.zero_le _
  | a :: r, h => by
    rw [List.map_cons, lens_cons, List.length_cons, Nat.mul_succ]
    have h1 := h a (List.mem_cons_self ..)
    have h2 := lens_map_le r fun z hz => h z (List.mem_cons_of_mem _ hz)
    omega
theorem filter_all {α : Type} (l : List α) : l.filter (fun _ => true) = l := by induction l with | nil => rfl | cons a r ih => simp
theorem slice_len (x : Str) (i : Int) : (Txt.slice x (some i) none).length ≤ x.length := by
  exact PyProof.Txt.length_slice_le x _ _
theorem lens_map_small {f : Str → Str} (hf : ∀ z, (f z).length ≤ z.length) : ∀ xs : List Str, lens (xs.map f) ≤ lens xs
  | [] => Nat.le_refl _
  | a :: r => by
    rw [List.map_cons, lens_cons, lens_cons]
    have h1 := hf a
    have h2 := lens_map_small hf r
    omega
theorem named_list {h : Heap} {l : Addr} {items : Array Value} (hl : h.IsList l items) : ∃ l', l' = l ∧ h.IsList l' items := ⟨l, rfl, hl⟩

theorem joinOk_big {ys : List Str} (h : lens ys + ys.length ≤ 16000000) : JoinOk (Str.ofString "\n") ys = true := by
  unfold JoinOk
  rw [StrLaws.joinTotal]
  have e : (Str.ofString "\n").length = 1 := rfl
  rw [e, Nat.mul_one]
  have h' : (ys.map (·.length)).sum + ys.length ≤ 16000000 := h
  unfold Builtin.Str.tooLong
  rw [Bool.not_eq_true', decide_eq_false_iff_not]
  have e2 : sizeLine = 16777216 := sizeLine_eq
  rw [e2]
  omega
theorem lens_pre {y : Str} : ∀ xs : List Str, lens (xs.map fun z => y ++ z) = lens xs + y.length * xs.length
  | [] => by simp [lens]
  | a :: r => by
    rw [List.map_cons, lens_cons, lens_cons, List.length_cons, Nat.mul_succ, lens_pre r, str_append_len]
    omega
section
variable {prog : Program} {w : World} {A : Around} {E : Value → Shared → Prop} {h₀ : Heap} {L : Addr} {m : Str → Option Value} {news : List (Addr × Obj)}
theorem w_butlast {value slice : Expr} {l : Addr} {vs : List Value} {v : Value} {n : Nat} {ti : Tok} {Q : Value → Shared → Prop} {h : Heap} {ge : _} {dr : _} {tk : Nat} {os : _} (F : Fr h₀ L h m) (N : News h₀ L h news) (hm : (l, lst (vs ++ [v]) n) ∈ news) (hb : vs.length ≤ 16000000)
    (k : ∀ D h', Fr h₀ L h' m → News h₀ L h' ((D, lst vs) :: news) → Q (.ref D) ⟨h', ge, dr, tk, os⟩)
    (hs : subscripted slice false (.ref l) (.ref h.objs.size) = operate [.ref h.objs.size, .ref l] (getItem (.ref l) (.ref h.objs.size)) := by with_unfolding_all rfl)
    (ht : ∀ r, letTemporaryGo value (.ref l) r = pure () := by intro _; with_unfolding_all rfl) :
    wpAny (model prog w) A (subscriptTail value slice (.ref l) (.ref h.objs.size)) Q E ⟨h.push { cls := .type "slice", data := .fields #[.none, .int (-1) ti, .none] }, ge, dr, tk, os⟩ := by
  refine slice_list (s := ⟨h, ge, dr, tk, os⟩) F N (isList_of (s := ⟨h, ge, dr, tk, os⟩) N hm) .none (.int _ _) (fun h' F' N' => ?_) hs ht (by rw [sizeLine_eq]; simp; omega)
  have e : slicePick (vs ++ [v]).toArray none (some (-1)) none = vs.toArray := by
    have := slicePick_butLast (vs ++ [v]).toArray 1 (Nat.le_refl 1)
    rw [show (-1 : Int) = -((1 : Nat) : Int) from rfl, this]
    simp
  rw [e] at N'
  exact k _ h' F' N'
end
end
section
local macro_rules | `(tactic| walk_at "call ref") => `(tactic| first | (refine call_white (by k_asm) (by k_asm) (by k_asm) (by k_asm) (by show _ + 1 < _; omega) (by ktr_room) (fun h' tk' F' N' => ?_)) | (refine call_indent (by k_asm) (by k_asm) (by k_asm) (by k_asm) (by show _ + 1 < _; omega) (by ktr_room) (fun h' t' tk' F' N' => ?_)))
local macro_rules | `(tactic| ktr_rel) => `(tactic| first | assumption | exact get_here | (refine get_there (by decide) ?_; ktr_rel))
local macro_rules | `(tactic| ktr_room) => `(tactic| first | assumption | omega | (simp only [str_append_len, str_one, List.length_append, List.length_drop, List.length_cons, List.length_nil]; omega) | decide | ((with_reducible rename (∀ i : Nat, Str.length (List.getD _ i _) ≤ _) => hw'); exact Nat.le_trans (hw' _) (Nat.le_of_ble_eq_true rfl)))
local macro_rules | `(tactic| walk_at "eval Name") => `(tactic| (refine ld (by k_asm) (by ktr_rel) ?_))
local macro_rules | `(tactic| walk_at "eval Name") => `(tactic| first | ((with_reducible show wpAny _ _ (eval _ (genEnv _ _ _ _ _ _)) _ _ _); (k_dflt (first | (refine ldVarG (by assumption) (by assumption) ?_) | (refine ldFreeG (by rfl) (by assumption) ?_)))) | ((with_reducible show wpAny _ _ (eval _ (envOfC _ _ _ _ _)) _ _ _); k_dflt (first | (refine c_local (by k_asm) (by ktr_rel) ?_) | (refine c_cell (by k_asm) (by apart_at) (by assumption) ?_) | (refine c_builtin (by k_asm) (by k_asm) (by k_asm) (by k_is) (by boot_fast) ?_) | (refine c_global (by k_asm) (by k_asm) (by k_asm) (by k_is) ?_))))
local macro_rules | `(tactic| walk_at "storeName") => `(tactic| first | (refine c_store (by k_asm) (by k_asm) (fun h' tk' F' N' => ?_)) | (refine c_storeC (by k_asm) (by k_asm) (by fresh_at) (by assumption) (fun h' o' F' N' d' => ?_)))
local macro_rules | `(tactic| back_in) => `(tactic| repeat' (first | ((fail_if_success (with_reducible show wpAny _ _ (eval (Expr.GeneratorExp _ _ _ _) _) _ _ _)); (fail_if_success (with_reducible show wpAny _ _ (exec (Stmt.If _ _ _ _) _) _ _ _)); (first | (walk1; (try dsimp only)) | (dsimp only; walk1; (try dsimp only))))))
local macro_rules | `(tactic| walk_at "subscriptTail Name Slice str ref") => `(tactic| k_dflt (refine slice_keep (by assumption) (fun h' t' k' hk' => ?_) (by ktr_room)))
local macro_rules | `(tactic| walk_at "call ref") => `(tactic| k_dflt (refine call_para (by k_asm) (by k_asm) (by k_asm) (by k_asm) (by show _ + 1 + 5 < _; omega) (by assumption) (by ktr_room) (fun h' t' tk' F' N' => ?_)))
local macro_rules | `(tactic| walk_at "call builtin:max") => `(tactic| k_dflt (refine max_two_N (by assumption) (by k_asm) (by k_asm) (fun h' k' F' N' => ?_)))
local macro_rules | `(tactic| walk_at "subscriptTail Name UnaryOp ref int") => `(tactic| k_dflt (refine item_last (isList_of (by k_asm) (by apart_at)) ?_))
local macro_rules | `(tactic| walk_at "subscriptTail Name Slice ref ref") => `(tactic| k_dflt (refine w_butlast (by k_asm) (by k_asm) (by apart_at) (by ktr_room) (fun D' h' F' N' => ?_)))
set_option pp.maxSteps 3000 in
set_option maxHeartbeats 8000000 in
theorem code_comment : ∀ {w : World} {A : Around} {s : Shared} {mg mb : Str → Option Value} {x y : Str} {t u v : Tok} {lim : Int} {R : Result → Shared → Prop}
    (X : (hd.heap_39 w.params).In s.heap) (T : TR mg mb s.heap) (hroom : A.depth + 9 < recursionLimit) (hh : A.handled = none) (hx : x.length ≤ 599) (hy : y.length ≤ 10) {P bm : Addr} {ob : Obj} (B : Based s.heap s.heap 59 P #[]) (M : BMod s.heap mainGlobals mg bm ob) (G : AllBare s.gens)
    (hR : ∀ (s' : Shared) t' ps', s'.os = s.os → Heap.ExtBut P s.heap s'.heap → s'.heap.IsCode 59 P ps' → s'.heap.TableAt 59 P ps' → AllBare s'.gens → R (.ok (.ret (.str (comment x y lim) t'))) s'),
   codeAny (model PySem.Challenge.rw_sc0019_01.prog w) A (.call (.ref 60) ⟨[.str x t, .int lim u, .str y v], []⟩) R s := by
  k_fill
  intro w A s mg mb x y t u v lim R X T hroom hh hx hy P bm ob B M G hR
  refine enterC (news := []) X T (fun _ h => nomatch h) (by k_is) (by k_is) (by omega) (BindsTo.of_eq rfl) (by rfl) (by decide) (fun L h₁ tk cells F N C => ?_)
  obtain ⟨m0, hm0⟩ : ∃ m0 : Str → Option Value, m0 = (fun z => if z = Str.ofString "limit" then some (.int lim u) else if z = Str.ofString "data" then some (.str x t) else none) := ⟨_, rfl⟩
  have F : Fr s.heap L h₁ m0 := hm0 ▸ F
  have md : m0 (Str.ofString "data") = some (.str x t) := by rw [hm0]; rfl
  have mlim : m0 (Str.ofString "limit") = some (.int lim u) := by rw [hm0]; rfl
  clear hm0
  change News s.heap L h₁ (cells ++ []) at N
  have C' : CellsAre _ [(Str.ofString "lc", L + 1 + 1), (Str.ofString "comment_header", L + 1)] cells := C
  obtain ⟨o1, o2, rfl, d1, d2⟩ := CellsAre.two C'
  change o1.data = .cell none at d1
  change o2.data = .cell (some (.str y v)) at d2
  change News s.heap L h₁ [(L + 1 + 1, o1), (L + 1, o2)] at N
  clear C C'
  have hLL : L + 1 ≠ L + 1 + 1 := Nat.ne_of_lt (Nat.lt_succ_self _)
  back_in
  rename Fr _ _ _ _ => F1
  rename News _ _ _ _ => N1
  rename (_ = Data.cell (some (Value.int _ _))) => d3
  refine gen_strs (L := L) (m := m0) (f := fun z => Txt.slice z (some (y.length : Int)) none) B M rfl rfl hh rfl rfl (by decide) rfl rfl rfl (by show _ + 1 < _; omega) ?_ (by intro _; rfl)
  refine endv ?_
  back_in
  rename Fr _ _ _ _ => F2
  rename News _ _ _ _ => N2
  rename List (Str × Tok) => ls
  rename StrsAre _ _ => hstr
  rename (∀ a : Str, a ∈ _ → _) => hlen
  rename (List.map _ _ = Txt.split _ _) => hsp
  have hP2 : L + 1 + 1 ≠ P := by
    intro q
    have := (N2 _ (.tail _ (.head _))).2.2
    dsimp only at this
    rw [q, B.tab.2] at this; cases this
  refine ⟨_, strValues ls, 0, ls.map (·.1), _, rfl, .head _, hstr, F2, N2, G, T.nolimit.keeps (Fr.keep F2), ?_, ?_⟩
  · intro c' C A' E' z tz u₂ m₂ hA hD hz FC hm₂ hLC hk
    have hcl : u₂.heap.IsCell (L + 1 + 1) (some (.int (y.length : Int) _)) := ⟨_, hk _ _ hP2 (N2 _ (.tail _ (.head _))).1, d3⟩
    have hzl : z.length ≤ 600 := Nat.le_trans (hlen z hz) (Nat.le_trans hx (by omega))
    have hst : u₂.heap.StaysIn u₂.heap := fun _ _ e => e
    refine endv ?_
    back_in
    exact ⟨⟨_, rfl⟩, ⟨_, _, rfl, by assumption⟩⟩
  · intro ps' a s₅ Kb B1 F3 N3 G3 hos hps hLK hKb hgen
    have X1 := kb_in_regrown B X T.g (K := hd.heap_39 w.params) (ps' := ps') (classed X rfl)
    have T1 : TR mg mb _ := LGe.top_regrown F3 T B
    walk1
    have hxl : (ls.map (·.1)).length ≤ 601 := by
      have := split_weight x (Str.ofString "\n") (Nat.le_refl 1)
      rw [← hsp] at this; omega
    have hok : JoinOk (Str.ofString "\n") (((ls.map (·.1)).filter (fun _ => true)).map fun z => Txt.slice z (some (y.length : Int)) none) = true := by
      rw [filter_all]
      refine joinOk_of_weight ?_ (by decide)
      have h1 := lens_map_le (f := fun z => Txt.slice z (some (y.length : Int)) none) (n := 600) (ls.map (·.1)) fun z hz => Nat.le_trans (slice_len _ _) (Nat.le_trans (hlen z hz) (Nat.le_trans hx (by omega)))
      rw [List.length_map]
      unfold lens at h1
      omega
    refine join_genD F3 G3 hgen hLK hok (fun s' t' F4 G4 hos4 hk4 => ?_) (by rw [sizeLine_eq]; omega)
    rw [filter_all]
    have N4 := News.kept N3 hKb hk4
    have M1 := BMod.regrown (ps' := ps') M B
    clear F3 N3 X T M G G3 hgen hk4
    obtain ⟨x1, hx1⟩ : ∃ x1, x1 = Txt.join (Str.ofString "\n") ((ls.map (·.1)).map fun z => Txt.slice z (some (y.length : Int)) none) := ⟨_, rfl⟩
    rw [← hx1]
    have hxl1 : x1.length ≤ 600 := by
      have h1 := split_weight x (Str.ofString "\n") (Nat.le_refl 1)
      rw [← hsp] at h1
      have h1' : lens (ls.map (·.1)) + (ls.map (·.1)).length ≤ x.length + 1 := h1
      have h2 := lens_map_small (f := fun z => Txt.slice z (some (y.length : Int)) none) (fun z => slice_len z _) (ls.map (·.1))
      have h3 := join_len ((ls.map (·.1)).map fun z => Txt.slice z (some (y.length : Int)) none)
      rw [List.length_map] at h3
      rw [hx1]
      exact Nat.le_trans h3 (by omega)
    have hpl := Nat.le_trans (para_len (if (20 : Int) > lim - (y.length : Int) then 20 else lim - (y.length : Int)) hxl1) (Nat.le_of_ble_eq_true (rfl : Nat.ble 400000 1000000 = true))
    back_in
    rename Fr _ _ _ _ => F6
    rename News _ _ _ _ => N6
    rename List (Str × Tok) => l2
    rename StrsAre _ _ => hstr2
    rename (List.map _ _ = Txt.split _ _) => hsp2
    rename (Heap.IsList _ _ _) => hl2
    obtain ⟨D, eD, hl2⟩ := named_list hl2
    dsimp only at eD N6
    rw [← eD] at F6 N6
    clear hl2 eD
    obtain ⟨vi, yi, z, tz, hv2, hy2, hvi⟩ : ∃ vi yi z tz, strValues l2 = vi ++ [.str z tz] ∧ l2.map (·.1) = yi ++ [z] ∧ StrsAre vi yi := by
      rcases PyProof.Rows.strs_nil_or_snoc hstr2 with ⟨_, e⟩ | h
      · have := split_pos (para x1 (if (20 : Int) > lim - (y.length : Int) then 20 else lim - (y.length : Int))) (Str.ofString "\n")
        rw [← hsp2, e] at this
        exact absurd this (by decide)
      · exact h
    rw [hv2] at N6 hstr2
    have hzl : z.length ≤ 16777216 := by
      have h1 := split_weight (para x1 (if (20 : Int) > lim - (y.length : Int) then 20 else lim - (y.length : Int))) (Str.ofString "\n") (Nat.le_refl 1)
      rw [← hsp2, hy2] at h1
      have h2 : lens (yi ++ [z]) + (yi ++ [z]).length ≤ _ := h1
      rw [lens_append, lens_cons] at h2
      omega
    have hvil : vi.length ≤ 16000000 := by
      have h1 := split_weight (para x1 (if (20 : Int) > lim - (y.length : Int) then 20 else lim - (y.length : Int))) (Str.ofString "\n") (Nat.le_refl 1)
      rw [← hsp2, hy2] at h1
      have h2 : lens (yi ++ [z]) + (yi ++ [z]).length ≤ _ := h1
      rw [List.length_append] at h2
      have := strsAre_length hvi
      omega
    refine endd (E := fun _ _ => False) (fun f s₇ => f = .next ∧ ∃ h' tk m' D vs2 n2 tsf, s₇ = { s' with heap := h', toks := tk } ∧ Fr (regrown s.heap P ps') L h' m' ∧ (∃ oo tl, News (regrown s.heap P ps') L h' [(D, lst vs2 n2), (L + 1 + 1, oo), (L + 1, o2)] ∧ oo.data = .cell (some (.int (y.length : Int) tl))) ∧ StrsAre vs2 (cutLast (l2.map (·.1))) ∧
      m' (Str.ofString "newdata") = some (.ref D) ∧ m' (Str.ofString "block_suffix") = some (.str (sfx (l2.map (·.1))) tsf)) ?_ (fun _ _ h => h) ?_
    · walk1
      (try dsimp only)
      back_in
      · rename z.length ≠ 0 => hz
        refine' ⟨rfl, _, _, _, D, vi ++ [.str z tz], 0, _, rfl, F6, ⟨_, _, News.sub N6 ?ga, d3⟩, ?gb, rfl, ?gc⟩
        case ga =>
          intro p hp
          rcases List.mem_cons.mp hp with rfl | hp
          · exact .head _
          · exact .tail _ (.tail _ hp)
        case gb => rw [hy2, cutLast_snoc, if_neg hz, ← hy2]; exact hstr2
        case gc => rw [hy2, sfx_snoc, if_neg hz]; rfl
      · rename ¬(z.length ≠ 0) => hz
        rename Fr _ _ _ _ => F7
        rename News _ _ _ _ => N7
        have hz0 : z.length = 0 := Decidable.not_not.mp hz
        refine' ⟨rfl, _, _, _, _, vi, 0, _, rfl, F7, ⟨_, _, News.sub N7 ?ga, d3⟩, ?gb, rfl, ?gc⟩
        case ga =>
          intro p hp
          rcases List.mem_cons.mp hp with rfl | hp
          · exact .head _
          · exact .tail _ (.tail _ (.tail _ hp))
        case gb => rw [hy2, cutLast_snoc, if_pos hz0]; exact hvi
        case gc => rw [hy2, sfx_snoc, if_pos hz0]; rfl
    · rintro f s₇ ⟨rfl, h₇, tk₇, m₇, D₂, vs2, n2, tsf, rfl, F7, ⟨oo, tl, N7, dd⟩, hst2, mnd, mbs⟩
      have hnd : cutLast (l2.map (·.1)) = cutLast (setLines x y lim) ∧ sfx (l2.map (·.1)) = sfx (setLines x y lim) := by
        rw [hsp2, hx1, hsp]; exact ⟨rfl, rfl⟩
      have hlens : lens (cutLast (setLines x y lim)) + (cutLast (setLines x y lim)).length ≤ 400001 := by
        have h1 := split_weight (para x1 (if (20 : Int) > lim - (y.length : Int) then 20 else lim - (y.length : Int))) (Str.ofString "\n") (Nat.le_refl 1)
        rw [← hsp2] at h1
        have h2 : lens (l2.map (·.1)) + (l2.map (·.1)).length ≤ _ := h1
        have h3 := para_len (if (20 : Int) > lim - (y.length : Int) then 20 else lim - (y.length : Int)) hxl1
        rw [← hnd.1]
        rw [hy2] at h2 ⊢
        rw [cutLast_snoc]
        rw [lens_append, List.length_append] at h2
        split
        · omega
        · rw [lens_append, List.length_append]; omega
      rw [hnd.1] at hst2
      rw [hnd.2] at mbs
      have hsfx : (sfx (setLines x y lim)).length ≤ 1 := by
        unfold sfx
        split
        · exact Nat.le_refl _
        · exact Nat.zero_le _
      clear F6 N6 hstr2 hv2 hvi hy2 hnd hsp2 hpl hx1 hxl1 hok
      obtain ⟨Z, hZ⟩ : ∃ Z, Z = cutLast (setLines x y lim) := ⟨_, rfl⟩
      rw [← hZ] at hst2 hlens
      obtain ⟨S, hS⟩ : ∃ S, S = sfx (setLines x y lim) := ⟨_, rfl⟩
      rw [← hS] at mbs hsfx
      have hcom : comment x y lim = Txt.join (Str.ofString "\n") (Z.map fun z => y ++ z) ++ S := by rw [hZ, hS]; rfl
      clear hZ hS
      obtain ⟨c1, rfl⟩ := hps
      have hP3 : L + 1 ≠ P := by
        intro q
        have := (N7 _ (.tail _ (.tail _ (.head _)))).2.2
        dsimp only at this
        rw [q, B1.tab.2] at this; cases this
      have hext : Heap.ExtBut P s.heap (regrown s.heap P (#[] ++ #[rawInt ((39 : Nat) : Int), rawInt ((21 : Nat) : Int), Value.ref c1])) := fun b o hb e => (Heap.get?_update_other _ _ (Ne.symm hb)).trans e
      back_in
      refine gen_strs (L := L) (m := m₇) (f := fun z => y ++ z) B1 M1 rfl rfl hh rfl rfl (by decide) rfl rfl rfl (by show _ + 1 < _; omega) ?_ (by intro _; rfl)
      refine endv ?_
      back_in
      refine ⟨D₂, vs2, n2, Z, _, rfl, .head _, hst2, F7, N7, G4, T1.nolimit.keeps (Fr.keep F7), ?_, ?_⟩
      · intro c' C A' E' z z' u₂ m₂ hA hD hz FC hm₂ hLC hk
        have hcl : u₂.heap.IsCell (L + 1) (some (.str y v)) := ⟨_, hk _ _ hP3 (N7 _ (.tail _ (.tail _ (.head _)))).1, d2⟩
        have hzl : y.length + z.length ≤ 16777216 := by
          have := mem_len hz
          omega
        refine endv ?_
        back_in
        exact ⟨⟨_, rfl⟩, ⟨_, _, rfl, fun _ _ e => e⟩⟩
      · intro ps2 a2 s₈ Kb2 B2 F8 N8 G8 hos8 hps8 hLK8 hKb8 hgen8
        walk1
        have hok : JoinOk (Str.ofString "\n") ((Z.filter (fun _ => true)).map fun z => y ++ z) = true := by
          rw [filter_all]
          refine joinOk_big ?_
          rw [lens_pre, List.length_map]
          have : y.length * Z.length ≤ 10 * Z.length := Nat.mul_le_mul_right _ hy
          omega
        refine join_genD F8 G8 hgen8 hLK8 hok (fun s9 t9 F9 G9 hos9 hk9 => ?_) (by rw [sizeLine_eq]; omega)
        rw [filter_all]
        have hj : (Txt.join (Str.ofString "\n") (Z.map fun z => y ++ z)).length + S.length ≤ 16777216 := by
          have h1 := join_len (Z.map fun z => y ++ z)
          rw [lens_pre, List.length_map] at h1
          have : y.length * Z.length ≤ 10 * Z.length := Nat.mul_le_mul_right _ hy
          have h2 : (Txt.join (Str.ofString "\n") (Z.map fun z => y ++ z)).length ≤ lens Z + y.length * Z.length + Z.length := h1
          omega
        clear hgen8 hk9 N8
        back_in
        rw [← hcom]
        refine hR ⟨s9.heap, s9.gens, s9.drawn, _, s9.os⟩ _ ps2 ?_ (fun b o hb e => ?_) (B2.codeAt F9) (B2.tabAt F9) G9
        · show s9.os = s.os
          exact hos9.trans (hos8.trans (hos4.trans hos))
        · exact F9.keep b o ((Heap.get?_update_other _ _ (Ne.symm hb)).trans (hext b o hb e))
end
section
/-! the plain law: texts as lists of signs -/
def mk (l : List Nat) : Str := ⟨l.toArray⟩
def tl (x : Str) : List Nat := x.cps.toList
theorem mk_tl (x : Str) : mk (tl x) = x := by
  apply Str.ext'
  show x.cps.toList.toArray = x.cps
  simp
theorem tl_mk (l : List Nat) : tl (mk l) = l := by unfold tl mk; simp
theorem tl_app (x y : Str) : tl (x ++ y) = tl x ++ tl y := by
  show (x.cps ++ y.cps).toList = _
  rw [Array.toList_append]; rfl
theorem tl_len (x : Str) : (tl x).length = x.length := by unfold tl Str.length; rw [Array.length_toList]
theorem tl_inj {x y : Str} (h : tl x = tl y) : x = y := by rw [← mk_tl x, ← mk_tl y, h]
theorem app_assoc (x y z : Str) : x ++ y ++ z = x ++ (y ++ z) := Str.append_assoc x y z
theorem app_cancel {x y z : Str} (h : x ++ y = x ++ z) : y = z := by
  have := congrArg tl h
  rw [tl_app, tl_app] at this
  exact tl_inj (List.append_cancel_left this)

/-! the join of texts that hold no row's end, split again -/
theorem join_nl (l : List Str) : Txt.join nl l = Str.join nl l := StrLaws.glued_eq_join nl l
theorem tl_join (a b : Str) (r : List Str) : tl (Str.join nl (a :: b :: r)) = tl a ++ 10 :: tl (Str.join nl (b :: r)) := by
  show tl (a ++ nl ++ Str.join nl (b :: r)) = _
  rw [tl_app, tl_app, List.append_assoc]; rfl
theorem cut_unique {a b c d : List Nat} (ha : 10 ∉ a) (hc : 10 ∉ c) (h : a ++ 10 :: b = c ++ 10 :: d) : a = c ∧ b = d := by
  induction a generalizing c with
  | nil =>
    cases c with
    | nil => simpa using h
    | cons x c =>
      rw [List.nil_append, List.cons_append] at h
      have := (List.cons.inj h).1
      exact absurd (this ▸ List.mem_cons_self ..) hc
  | cons x a ih =>
    cases c with
    | nil =>
      rw [List.nil_append, List.cons_append] at h
      have := (List.cons.inj h).1
      exact absurd (this ▸ List.mem_cons_self ..) ha
    | cons y c =>
      rw [List.cons_append, List.cons_append] at h
      obtain ⟨e, h⟩ := List.cons.inj h
      obtain ⟨p, q⟩ := ih (fun m => ha (List.mem_cons_of_mem _ m)) (fun m => hc (List.mem_cons_of_mem _ m)) h
      exact ⟨by rw [e, p], q⟩
theorem join_inj : ∀ {l k : List Str}, l ≠ [] → k ≠ [] → (∀ x ∈ l, 10 ∉ tl x) → (∀ x ∈ k, 10 ∉ tl x) → Str.join nl l = Str.join nl k → l = k
  | [], _, h, _, _, _, _ => absurd rfl h
  | _, [], _, h, _, _, _ => absurd rfl h
  | [a], [b], _, _, _, _, h => by rw [show a = b from h]
  | [a], b :: c :: r, _, _, ha, _, h => by
    exfalso
    have e : tl a = tl b ++ 10 :: tl (Str.join nl (c :: r)) := (congrArg tl (show a = Str.join nl (b :: c :: r) from h)).trans (tl_join b c r)
    exact ha a (List.mem_singleton.mpr rfl) (by rw [e]; simp)
  | a :: c :: r, [b], _, _, _, hb, h => by
    exfalso
    have e : tl b = tl a ++ 10 :: tl (Str.join nl (c :: r)) := (congrArg tl (show b = Str.join nl (a :: c :: r) from h.symm)).trans (tl_join a c r)
    exact hb b (List.mem_singleton.mpr rfl) (by rw [e]; simp)
  | a :: c :: r, b :: d :: s, _, _, ha, hb, h => by
    have e := congrArg tl h
    rw [tl_join, tl_join] at e
    obtain ⟨e1, e2⟩ := cut_unique (ha a (List.mem_cons_self ..)) (hb b (List.mem_cons_self ..)) e
    rw [tl_inj e1, join_inj (List.cons_ne_nil _ _) (List.cons_ne_nil _ _) (fun x hx => ha x (List.mem_cons_of_mem _ hx)) (fun x hx => hb x (List.mem_cons_of_mem _ hx)) (tl_inj e2)]
theorem split_join {l : List Str} (hl : l ≠ []) (h : ∀ x ∈ l, 10 ∉ tl x) : Txt.split (Txt.join nl l) nl = l := by
  have h1 : Str.join nl (Txt.split (Txt.join nl l) nl) = Txt.join nl l := StrLaws.join_split _ _
  rw [join_nl] at h1
  refine join_inj ?_ hl (fun x hx => StrLaws.split_free (Txt.join nl l) 10 x hx) h (by rw [join_nl]; exact h1)
  intro e
  rw [join_nl] at e
  have := split_pos (Str.join nl l) nl
  rw [e] at this
  exact absurd this (by decide)

/-! the words of a row -/
theorem spanAt_eq (t : Array Nat) (f : Nat → Bool) : ∀ n p, p + n ≤ t.size → spanAt t f n p = (((t.toList.drop p).take n).takeWhile f).length
  | 0, p, _ => by simp [spanAt]
  | n + 1, p, h => by
    have hp : p < t.toList.length := by simp; omega
    have e : t.getD p 0 = t.toList[p] := by simp [Array.getD, show p < t.size by omega]
    rw [List.drop_eq_getElem_cons hp, List.take_succ_cons, List.takeWhile_cons]
    unfold spanAt
    rw [spanAt_eq t f n (p + 1) (by omega), e]
    split <;> simp
theorem spFrom_eq (t : Array Nat) (p : Nat) (hp : p ≤ t.size) : spFrom t p = p + ((t.toList.drop p).takeWhile notSp).length := by
  unfold spFrom
  rw [spanAt_eq t _ _ _ (by omega), List.take_of_length_le (by simp)]
theorem spTo_eq (t : Array Nat) (p : Nat) (hp : p ≤ t.size) : spTo t p = p + ((t.toList.drop p).takeWhile Unicode.isSpace).length := by
  unfold spTo
  rw [spanAt_eq t _ _ _ (by omega), List.take_of_length_le (by simp)]
theorem takeWhile_all {α : Type} {p : α → Bool} : ∀ (a : List α), (∀ x ∈ a, p x = true) → ∀ b, (a ++ b).takeWhile p = a ++ b.takeWhile p
  | [], _, _ => rfl
  | x :: a, h, b => by rw [List.cons_append, List.takeWhile_cons, if_pos (h x (List.mem_cons_self ..)), takeWhile_all a (fun y hy => h y (List.mem_cons_of_mem _ hy)) b]; rfl
theorem takeWhile_stop {α : Type} {p : α → Bool} : ∀ (b : List α), (∀ x r, b = x :: r → p x = false) → b.takeWhile p = []
  | [], _ => rfl
  | x :: r, h => by rw [List.takeWhile_cons, if_neg (by rw [h x r rfl]; simp)]
/-- white signs alone | no white sign -/
def Wh (l : List Nat) : Prop := ∀ c ∈ l, Unicode.isSpace c = true
def Bl (l : List Nat) : Prop := ∀ c ∈ l, Unicode.isSpace c = false
/-- a text that does not begin with white -/
def Hd (l : List Nat) : Prop := ∀ x r, l = x :: r → Unicode.isSpace x = false
theorem Bl.hd {a : List Nat} (h : Bl a) (hn : a ≠ []) (b : List Nat) : Hd (a ++ b) := by
  intro x r e
  cases a with
  | nil => exact absurd rfl hn
  | cons y a => rw [List.cons_append] at e; cases e; exact h _ (List.mem_cons_self ..)
theorem ex_drop (t : Array Nat) (p : Nat) {a b : List Nat} (h : t.toList.drop p = a ++ b) : t.extract p (p + a.length) = a.toArray := by
  apply Array.toList_inj.mp
  rw [Array.toList_extract, List.extract_eq_take_drop, h]
  simp
theorem pieces_step {t : Array Nat} {p f : Nat} {a g rest : List Nat} (h : t.toList.drop p = a ++ (g ++ rest)) (ha : Bl a) (hg : Wh g) (hgn : g ≠ []) (hr : Hd rest) :
    piecesFrom t (f + 1) p = mk a :: mk g :: piecesFrom t f (p + a.length + g.length) := by
  have hp : p ≤ t.size := by
    by_cases q : p ≤ t.size
    · exact q
    · rw [List.drop_eq_nil_of_le (by simp; omega)] at h
      have := congrArg List.length h
      have h0 : 0 < g.length := List.length_pos_iff.mpr hgn
      simp at this; omega
  have hlen : t.size = p + a.length + g.length + rest.length := by
    have := congrArg List.length h
    simp at this; omega
  have e1 : spFrom t p = p + a.length := by
    rw [spFrom_eq t p hp, h, takeWhile_all a (fun x hx => by unfold notSp; rw [ha x hx]; rfl), takeWhile_stop]
    · simp
    · intro x r e
      cases g with
      | nil => exact absurd rfl hgn
      | cons y g => rw [List.cons_append] at e; cases e; unfold notSp; rw [hg _ (List.mem_cons_self ..)]; rfl
  have h2 : t.toList.drop (p + a.length) = g ++ rest := by rw [← List.drop_drop, h]; simp
  have h3 : t.toList.drop (p + a.length + g.length) = rest := by rw [← List.drop_drop, h2]; simp
  have e2 : spTo t (p + a.length) = p + a.length + g.length := by
    rw [spTo_eq t _ (by omega), h2, takeWhile_all g (fun x hx => hg x hx), takeWhile_stop rest hr]
    simp
  have hgl : 0 < g.length := List.length_pos_iff.mpr hgn
  conv => lhs; unfold piecesFrom
  rw [e1, if_neg (by omega), e2, ex_drop t p h, ex_drop t _ h2]
  rfl
theorem pieces_last {t : Array Nat} {p f : Nat} {a : List Nat} (h : t.toList.drop p = a) (hp : p ≤ t.size) (ha : Bl a) : piecesFrom t f p = [mk a] := by
  have hlen : t.size = p + a.length := by
    have := congrArg List.length h
    simp at this; omega
  have e : t.extract p t.size = a.toArray := by
    have := ex_drop t p (a := a) (b := []) (by rw [h]; simp)
    rw [hlen]; exact this
  cases f with
  | zero => unfold piecesFrom; rw [e]; rfl
  | succ f =>
    have e1 : spFrom t p = t.size := by
      rw [spFrom_eq t p hp, h]
      have := takeWhile_all (p := notSp) a (fun x hx => by unfold notSp; rw [ha x hx]; rfl) []
      rw [List.append_nil] at this
      rw [this, hlen]; simp
    unfold piecesFrom
    rw [if_pos e1, e]; rfl

/-- a pair of a row: a word, and what stands behind it -/
abbrev Pair := Str × Str
def pairText (l : List Pair) : Str := Txt.join (Str.ofString "") (l.map fun p => p.1 ++ p.2)
def isWord (w : Str) : Prop := Bl (tl w) ∧ tl w ≠ []
def isGap (g : Str) : Prop := Wh (tl g) ∧ tl g ≠ [] ∧ 10 ∉ tl g
/-- the pairs of a row: only the last may lack what stands behind -/
def PairsOk : List Pair → Prop
  | [] => True
  | [p] => isWord p.1 ∧ (isGap p.2 ∨ p.2 = Str.ofString "")
  | p :: q :: r => isWord p.1 ∧ isGap p.2 ∧ PairsOk (q :: r)
theorem join_empty : ∀ l : List Str, tl (Txt.join (Str.ofString "") l) = l.flatMap tl
  | [] => rfl
  | [a] => by
    show tl a = _
    simp
  | a :: b :: r => by
    have := join_empty (b :: r)
    have e1 : Txt.join (Str.ofString "") (a :: b :: r) = a ++ Str.ofString "" ++ Txt.join (Str.ofString "") (b :: r) := by
      show Builtin.Str.glued _ _ = a ++ _ ++ Builtin.Str.glued _ _
      rw [StrLaws.glued_eq_join, StrLaws.glued_eq_join]; rfl
    rw [e1, tl_app, tl_app, this]
    show tl a ++ [] ++ _ = _
    rw [List.append_nil]; rfl
theorem pairText_tl (l : List Pair) : tl (pairText l) = l.flatMap fun p => tl p.1 ++ tl p.2 := by
  unfold pairText
  rw [join_empty, List.flatMap_map]
  congr 1
  funext p
  exact tl_app _ _
theorem pairText_cons (p : Pair) (l : List Pair) : tl (pairText (p :: l)) = tl p.1 ++ (tl p.2 ++ tl (pairText l)) := by rw [pairText_tl, pairText_tl, List.flatMap_cons, List.append_assoc]
theorem PairsOk.tail {p : Pair} {l : List Pair} (h : PairsOk (p :: l)) : PairsOk l := by
  cases l with
  | nil => trivial
  | cons q r => exact h.2.2
theorem PairsOk.word {p : Pair} {l : List Pair} (h : PairsOk (p :: l)) : isWord p.1 := by
  cases l with
  | nil => exact h.1
  | cons q r => exact h.1
theorem PairsOk.hd : ∀ {l : List Pair}, PairsOk l → Hd (tl (pairText l))
  | [], _ => by
    intro x r e
    have : tl (pairText []) = [] := rfl
    rw [this] at e; cases e
  | p :: l, h => by
    rw [pairText_cons]
    exact h.word.1.hd h.word.2 _
/-- the words that count, each with the word whether two blanks stand behind -/
def twoOf (g : Str) : Bool := g != blank && g != Str.ofString ""
def paired (l : List Pair) : List (Str × Bool) := l.map fun p => (p.1, twoOf p.2)
theorem gap_ne {g : Str} (h : isGap g) : (g != blank) = twoOf g := by
  unfold twoOf
  have : (g != Str.ofString "") = true := by
    rw [bne_iff_ne]
    intro e
    exact h.2.1 (by rw [e]; rfl)
  rw [this, Bool.and_true]
/-- the words of what stands in a row from a place on: the pairs', and at times an empty one behind -/
theorem words_pairs {t : Array Nat} : ∀ (l : List Pair) (p f : Nat), PairsOk l → p ≤ t.size → t.toList.drop p = tl (pairText l) → l.length ≤ f →
    ∃ tail, wordsOf (piecesFrom t f p) = paired l ++ tail ∧ ∀ z ∈ tail, z.1.length = 0
  | [], p, f, _, hp, h, _ => by
    rw [pieces_last (a := []) (by rw [h]; rfl) hp (fun _ m => nomatch m)]
    exact ⟨[(mk [], false)], rfl, fun z hz => by rw [List.mem_singleton.mp hz]; rfl⟩
  | [q], p, f, ok, hp, h, hf => by
    rw [pairText_cons] at h
    rcases ok.2 with hg | hg
    · cases f with
      | zero => rw [List.length_singleton] at hf; omega
      | succ f =>
        have hnil : tl (pairText []) = [] := rfl
        rw [pieces_step h ok.1.1 hg.1 hg.2.1 (by rw [hnil]; intro x r e; cases e)]
        have hsz : t.size = p + (tl q.1).length + (tl q.2).length := by
          have := congrArg List.length h
          rw [hnil] at this
          simp at this
          have h0 : 0 < (tl q.2).length := List.length_pos_iff.mpr hg.2.1
          omega
        rw [pieces_last (a := []) (by rw [List.drop_eq_nil_of_le (by simp; omega)]) (by omega) (fun _ m => nomatch m)]
        refine ⟨[(mk [], false)], ?_, fun z hz => by rw [List.mem_singleton.mp hz]; rfl⟩
        show [(mk (tl q.1), mk (tl q.2) != blank), (mk [], false)] = _
        rw [mk_tl, mk_tl, gap_ne hg]; rfl
    · have e : t.toList.drop p = tl q.1 := by rw [h, hg]; show tl q.1 ++ ([] ++ []) = _; simp
      rw [pieces_last e hp ok.1.1]
      refine ⟨[], ?_, fun z hz => nomatch hz⟩
      show [(mk (tl q.1), false)] = [(q.1, twoOf q.2)]
      rw [mk_tl, hg]; rfl
  | q :: q2 :: l, p, f, ok, hp, h, hf => by
    rw [pairText_cons] at h
    cases f with
    | zero => simp at hf
    | succ f =>
      have hsz : p + (tl q.1).length + (tl q.2).length ≤ t.size := by
        have := congrArg List.length h
        simp at this
        have h0 : 0 < (tl q.2).length := List.length_pos_iff.mpr ok.2.1.2.1
        omega
      rw [pieces_step h ok.1.1 ok.2.1.1 ok.2.1.2.1 ok.2.2.hd]
      obtain ⟨tail, e, ht⟩ := words_pairs (q2 :: l) (p + (tl q.1).length + (tl q.2).length) f ok.2.2 hsz (by
        rw [Nat.add_assoc, ← List.drop_drop, h, ← List.append_assoc, ← List.length_append]; simp) (by simp at hf ⊢; omega)
      refine ⟨tail, ?_, ht⟩
      show (mk (tl q.1), mk (tl q.2) != blank) :: wordsOf _ = _
      rw [e, mk_tl, mk_tl, gap_ne ok.2.1]; rfl
theorem pairs_count : ∀ {l : List Pair}, PairsOk l → l.length ≤ (tl (pairText l)).length
  | [], _ => Nat.zero_le _
  | p :: l, h => by
    have := pairs_count h.tail
    have h0 : 0 < (tl p.1).length := List.length_pos_iff.mpr h.word.2
    rw [pairText_cons]
    simp; omega
/-- a row: what it is led by, and its pairs -/
abbrev PRow := Str × List Pair
def rowText (r : PRow) : Str := r.1 ++ pairText r.2
def isLead (x : Str) : Prop := Wh (tl x) ∧ 10 ∉ tl x
structure RowOk (r : PRow) : Prop where
  lead : isLead r.1
  pairs : PairsOk r.2
theorem words_row {r : PRow} (h : RowOk r) (hn : r.2 ≠ []) : ∃ pre tail, wordsOf (pieces (rowText r)) = pre ++ (paired r.2 ++ tail) ∧ (∀ z ∈ pre, z.1.length = 0) ∧ ∀ z ∈ tail, z.1.length = 0 := by
  unfold pieces
  have ht : (rowText r).cps.toList = tl r.1 ++ tl (pairText r.2) := tl_app _ _
  have hs : (rowText r).cps.size = (tl r.1).length + (tl (pairText r.2)).length := by rw [← Array.length_toList, ht, List.length_append]
  have hc := pairs_count h.pairs
  by_cases hl : tl r.1 = []
  · rw [hl, List.nil_append] at ht
    obtain ⟨tail, e, h2⟩ := words_pairs r.2 0 ((rowText r).cps.size + 1) h.pairs (Nat.zero_le _) (by rw [List.drop_zero, ht]) (by omega)
    exact ⟨[], tail, e, fun z hz => (nomatch hz), h2⟩
  · rw [pieces_step (a := []) (g := tl r.1) (rest := tl (pairText r.2)) (by rw [List.drop_zero, ht]; rfl) (fun _ m => nomatch m) h.lead.1 hl h.pairs.hd]
    obtain ⟨tail, e, h2⟩ := words_pairs (t := (rowText r).cps) r.2 (0 + [].length + (tl r.1).length) (rowText r).cps.size h.pairs (by simp; omega) (by
      rw [ht]; simp) (by omega)
    refine ⟨[(mk [], mk (tl r.1) != blank)], tail, ?_, fun z hz => by rw [List.mem_singleton.mp hz]; rfl, h2⟩
    show (mk [], mk (tl r.1) != blank) :: wordsOf _ = _
    rw [e]; rfl
theorem white_row {r : PRow} (h : RowOk r) : white (rowText r) = r.2.isEmpty := by
  unfold white
  rw [← Array.all_toList]
  have ht : (rowText r).cps.toList = tl r.1 ++ tl (pairText r.2) := tl_app _ _
  rw [ht, List.all_append]
  cases e : r.2 with
  | nil =>
    have : tl (pairText []) = [] := rfl
    rw [this]
    simp only [List.all_nil, Bool.and_true, List.isEmpty_nil, List.all_eq_true]
    exact h.lead.1
  | cons p l =>
    have hp := h.pairs
    rw [e] at hp
    rw [pairText_cons, List.all_append]
    have : (tl p.1).all Unicode.isSpace = false := by
      have h1 := hp.word
      cases hw : tl p.1 with
      | nil => exact absurd hw h1.2
      | cons c w =>
        have : Unicode.isSpace c = false := h1.1 c (by rw [hw]; exact List.mem_cons_self ..)
        simp [this]
    rw [this]; simp
end
section
/-! what the law says of a run of rows -/
def ff : Str := Str.ofString "\x0c"
def frontOf (x : Str) : Str := Txt.replace x ff (Str.ofString "")
def spansStep (st : Str × List (Nat × Nat)) (p : Pair) : Str × List (Nat × Nat) := (st.1 ++ p.1 ++ (if twoOf p.2 then Str.ofString "  " else Str.ofString " "), st.2 ++ [(st.1.length, st.1.length + p.1.length)])
def spansOf (l : List Pair) : Str × List (Nat × Nat) := l.foldl spansStep (Str.ofString "", [])
def spAt (sp : List (Nat × Nat)) (k : Nat) : Nat × Nat := sp.getD k (0, 0)
def dueStep (lim : Int) (f2 E : Str) (sp : List (Nat × Nat)) (st : List Str × Str × Nat) (k : Nat) : List Str × Str × Nat :=
  if ((expand st.2.1).length : Int) + ((spAt sp k).2 : Int) - ((spAt sp st.2.2).1 : Int) > lim then
    (st.1 ++ [st.2.1 ++ Txt.slice E (some ((spAt sp st.2.2).1 : Int)) (some ((spAt sp (k - 1)).2 : Int))], f2, k) else st
def dueLoop (lim : Int) (f1 f2 E : Str) (sp : List (Nat × Nat)) (k : Nat) : List Str × Str × Nat := (List.range' 1 (k - 1)).foldl (dueStep lim f2 E sp) ([], f1, 0)
def dueOf (lim : Int) (f1 f2 : Str) (l : List Pair) : List Str :=
  let sp := (spansOf l).2
  let st := dueLoop lim f1 f2 (spansOf l).1 sp sp.length
  st.1 ++ [st.2.1 ++ Txt.slice (spansOf l).1 (some ((spAt sp st.2.2).1 : Int)) (some ((spAt sp (sp.length - 1)).2 : Int))]
def bareRows (rows : List PRow) : Nat := (rows.takeWhile fun r => r.2.isEmpty).length
def runRows (rows : List PRow) : List PRow := (rows.drop (bareRows rows)).takeWhile fun r => !r.2.isEmpty
def front2 (f1 : Str) : List PRow → Str
  | [] => f1
  | r :: _ => frontOf r.1
def filled (rows : List PRow) (texts : List Str) (lim : Int) : List Str :=
  match runRows rows with
  | [] => texts
  | r :: rs => texts.take (bareRows rows) ++ dueOf lim (frontOf r.1) (front2 (frontOf r.1) rs) ((r :: rs).flatMap (·.2)) ++ texts.drop (bareRows rows + (r :: rs).length)

/-! the same by lists of signs -/
def sub (l : List Nat) (a b : Nat) : List Nat := (l.drop a).take (b - a)
theorem sub_app (l : List Nat) {a b c : Nat} (h1 : a ≤ b) (h2 : b ≤ c) : sub l a b ++ sub l b c = sub l a c := by
  unfold sub
  have e : l.drop b = (l.drop a).drop (b - a) := by rw [List.drop_drop]; congr 1; omega
  rw [e, show c - a = (b - a) + (c - b) by omega, List.take_add]
def bl (b : Bool) : List Nat := if b then [32, 32] else [32]
def endl (ws : List (Str × Bool)) : List Nat := ws.flatMap fun w => tl w.1 ++ bl w.2
theorem endl_app (a b : List (Str × Bool)) : endl (a ++ b) = endl a ++ endl b := by unfold endl; rw [List.flatMap_append]
def sAt (ws : List (Str × Bool)) (k : Nat) : Nat := (endl (ws.take k)).length
def wAt (ws : List (Str × Bool)) (k : Nat) : Str × Bool := ws.getD k (Str.empty, false)
def eAt (ws : List (Str × Bool)) (k : Nat) : Nat := sAt ws k + (wAt ws k).1.length
theorem wAt_is {ws : List (Str × Bool)} {k : Nat} (hk : k < ws.length) : ws[k] = wAt ws k := by
  unfold wAt; rw [List.getD_eq_getElem?_getD, List.getElem?_eq_getElem hk]; rfl
theorem sAt_succ {ws : List (Str × Bool)} {k : Nat} (hk : k < ws.length) : sAt ws (k + 1) = eAt ws k + (bl (wAt ws k).2).length := by
  unfold eAt sAt
  rw [List.take_succ_eq_append_getElem hk, endl_app, wAt_is hk, ← tl_len]
  simp [endl]; omega
theorem endl_drop {ws : List (Str × Bool)} {k : Nat} (hk : k < ws.length) : (endl ws).drop (sAt ws k) = tl (wAt ws k).1 ++ (bl (wAt ws k).2 ++ endl (ws.drop (k + 1))) := by
  have e : endl ws = endl (ws.take k) ++ endl (ws.drop k) := by rw [← endl_app, List.take_append_drop]
  rw [e]
  unfold sAt
  rw [List.drop_left, List.drop_eq_getElem_cons hk, wAt_is hk]
  simp [endl]
theorem sub_word {ws : List (Str × Bool)} {k : Nat} (hk : k < ws.length) : sub (endl ws) (sAt ws k) (eAt ws k) = tl (wAt ws k).1 := by
  unfold sub
  rw [endl_drop hk]
  unfold eAt
  rw [← tl_len, Nat.add_sub_cancel_left, List.take_left]
theorem sub_blank {ws : List (Str × Bool)} {k : Nat} (hk : k < ws.length) : sub (endl ws) (eAt ws k) (sAt ws (k + 1)) = bl (wAt ws k).2 := by
  rw [sAt_succ hk]
  unfold sub
  have e : (endl ws).drop (eAt ws k) = bl (wAt ws k).2 ++ endl (ws.drop (k + 1)) := by
    unfold eAt
    rw [← List.drop_drop, endl_drop hk, ← tl_len, List.drop_left]
  rw [e, Nat.add_sub_cancel_left, List.take_left]
theorem sAt_mono {ws : List (Str × Bool)} : ∀ {i k : Nat}, i ≤ k → k ≤ ws.length → sAt ws i ≤ sAt ws k
  | i, 0, h, _ => by rw [Nat.le_zero.mp h]; exact Nat.le_refl _
  | i, k + 1, h, hk => by
    rcases Nat.lt_or_ge i (k + 1) with q | q
    · have := sAt_mono (ws := ws) (i := i) (k := k) (by omega) (by omega)
      rw [sAt_succ (by omega)]
      unfold eAt; omega
    · rw [show i = k + 1 by omega]; exact Nat.le_refl _
theorem sAt_all (ws : List (Str × Bool)) : sAt ws ws.length = (endl ws).length := by unfold sAt; rw [List.take_length]
theorem slice_nat (x : Str) {a b : Nat} (hab : a ≤ b) (hb : b ≤ x.length) : tl (Txt.slice x (some (a : Int)) (some (b : Int))) = sub (tl x) a b := by
  have := StrLaws.sliceText_nat x hab hb
  have e : Txt.slice x (some (a : Int)) (some (b : Int)) = StrLaws.sliceText x (some (a : Int)) (some (b : Int)) := rfl
  rw [e, this]; exact tl_mk _
theorem spans_go : ∀ (l : List Pair) (E : Str) (sp : List (Nat × Nat)) (pre : List (Str × Bool)), tl E = endl pre → sp = (List.range pre.length).map (fun k => (sAt pre k, eAt pre k)) →
    tl (l.foldl spansStep (E, sp)).1 = endl (pre ++ paired l) ∧ (l.foldl spansStep (E, sp)).2 = (List.range (pre ++ paired l).length).map fun k => (sAt (pre ++ paired l) k, eAt (pre ++ paired l) k)
  | [], E, sp, pre, h1, h2 => by
    have : paired [] = [] := rfl
    rw [this, List.append_nil]
    exact ⟨h1, h2⟩
  | p :: l, E, sp, pre, h1, h2 => by
    have ec : pre ++ paired (p :: l) = (pre ++ [(p.1, twoOf p.2)]) ++ paired l := by
      show pre ++ ((p.1, twoOf p.2) :: paired l) = _
      simp
    rw [ec]
    refine spans_go l _ _ (pre ++ [(p.1, twoOf p.2)]) ?_ ?_
    · rw [tl_app, tl_app, h1, endl_app]
      have : tl (if twoOf p.2 then Str.ofString "  " else Str.ofString " ") = bl (twoOf p.2) := by cases twoOf p.2 <;> rfl
      rw [this]
      simp [endl]
    · have hE : E.length = (endl pre).length := by rw [← tl_len, h1]
      rw [List.length_append, List.length_singleton, List.range_succ, List.map_append, h2]
      congr 1
      · refine List.map_congr_left fun k hk => ?_
        have hk' := List.mem_range.mp hk
        have es : sAt (pre ++ [(p.1, twoOf p.2)]) k = sAt pre k := by unfold sAt; rw [List.take_append_of_le_length (by omega)]
        have ew : wAt (pre ++ [(p.1, twoOf p.2)]) k = wAt pre k := by
          unfold wAt; rw [List.getD_eq_getElem?_getD, List.getD_eq_getElem?_getD, List.getElem?_append_left hk']
        unfold eAt
        rw [es, ew]
      · have es : sAt (pre ++ [(p.1, twoOf p.2)]) pre.length = (endl pre).length := by unfold sAt; rw [List.take_append_of_le_length (Nat.le_refl _), List.take_length]
        have ew : wAt (pre ++ [(p.1, twoOf p.2)]) pre.length = (p.1, twoOf p.2) := by
          unfold wAt; rw [List.getD_eq_getElem?_getD, List.getElem?_append_right (Nat.le_refl _), Nat.sub_self]; rfl
        unfold eAt
        rw [List.map_singleton, es, ew, hE]
theorem spans_is (l : List Pair) : tl (spansOf l).1 = endl (paired l) ∧ (spansOf l).2 = (List.range l.length).map fun k => (sAt (paired l) k, eAt (paired l) k) := by
  obtain ⟨a, b⟩ := spans_go l (Str.ofString "") [] [] rfl rfl
  have hl : (paired l).length = l.length := by unfold paired; rw [List.length_map]
  rw [List.nil_append] at a b
  rw [hl] at b
  exact ⟨a, b⟩
theorem spAt_is {l : List Pair} {k : Nat} (hk : k < l.length) : spAt (spansOf l).2 k = (sAt (paired l) k, eAt (paired l) k) := by
  unfold spAt
  rw [(spans_is l).2, List.getD_eq_getElem?_getD, List.getElem?_map, List.getElem?_range hk]; rfl
theorem expGo_len (b : List Nat) (hb : 9 ∉ b) : ∀ (a : List Nat) (c : Nat), (expGo (a ++ b) c).length = (expGo a c).length + b.length
  | [], c => by rw [List.nil_append, expGo_noTab b c hb]; show b.length = 0 + _; omega
  | x :: a, c => by
    rw [List.cons_append]
    unfold expGo
    split
    · rw [List.length_append, List.length_append, expGo_len b hb a]; omega
    · rw [List.length_cons, List.length_cons, expGo_len b hb a]; omega
theorem expand_len {x : Str} {b : List Nat} (hb : 9 ∉ b) : (expand (x ++ mk b)).length = (expand x).length + b.length := by
  have e : (x ++ mk b).cps.toList = tl x ++ b := by
    show tl (x ++ mk b) = _
    rw [tl_app, tl_mk]
  unfold expand
  show (expGo (x ++ mk b).cps.toList 0).toArray.size = (expGo x.cps.toList 0).toArray.size + _
  rw [e, List.size_toArray, List.size_toArray, expGo_len b hb]; rfl
theorem rstrip_tl (x : Str) : tl (Txt.rstrip x) = ((tl x).reverse.dropWhile Unicode.isSpace).reverse := by
  unfold Txt.rstrip
  rw [PySem.W.stripBy_eq]
  unfold PySem.W.stripped
  simp only [Bool.false_eq_true, if_false, if_true, List.drop_zero]
  show tl (Builtin.Str.strSub x 0 _) = _
  have e := StrLaws.strSub_toList x 0 (x.length - ((tl x).reverse.takeWhile Unicode.isSpace).length)
  have e' : tl (Builtin.Str.strSub x 0 (x.length - ((tl x).reverse.takeWhile Unicode.isSpace).length)) = ((tl x).drop 0).take (x.length - ((tl x).reverse.takeWhile Unicode.isSpace).length - 0) := e
  refine e'.trans ?_
  rw [List.drop_zero, Nat.sub_zero, ← tl_len]
  have h := List.takeWhile_append_dropWhile (p := Unicode.isSpace) (l := (tl x).reverse)
  generalize hA : (tl x).reverse.takeWhile Unicode.isSpace = A at *
  generalize hB : (tl x).reverse.dropWhile Unicode.isSpace = B at *
  have hx : tl x = B.reverse ++ A.reverse := by rw [← List.reverse_append, h, List.reverse_reverse]
  rw [hx]
  have : (B.reverse ++ A.reverse).length - A.length = B.reverse.length := by simp
  rw [this, List.take_left]
theorem dropWhile_all {α : Type} {p : α → Bool} : ∀ (a : List α), (∀ x ∈ a, p x = true) → ∀ b, (a ++ b).dropWhile p = b.dropWhile p
  | [], _, _ => rfl
  | x :: a, h, b => by rw [List.cons_append, List.dropWhile_cons, if_pos (h x (List.mem_cons_self ..)), dropWhile_all a (fun y hy => h y (List.mem_cons_of_mem _ hy)) b]
/-- white at the end goes, a word's end stays -/
theorem rstrip_word {x : Str} {a w g : List Nat} (hx : tl x = a ++ (w ++ g)) (hw : Bl w) (hn : w ≠ []) (hg : Wh g) : Txt.rstrip x = mk (a ++ w) := by
  apply tl_inj
  rw [rstrip_tl, tl_mk, hx, ← List.append_assoc, List.reverse_append, dropWhile_all _ (fun c hc => hg c (List.mem_reverse.mp hc))]
  rw [List.reverse_append]
  cases hr : w.reverse with
  | nil => exact absurd (List.reverse_eq_nil_iff.mp hr) hn
  | cons c r =>
    have hc : Unicode.isSpace c = false := hw c (List.mem_reverse.mp (by rw [hr]; exact List.mem_cons_self ..))
    rw [List.cons_append, List.dropWhile_cons, if_neg (by rw [hc]; simp), ← List.cons_append, ← hr, ← List.reverse_append, List.reverse_reverse]
end
section
abbrev tupO (vs : List Value) (n : Nat := 0) : Obj := { cls := .type "tuple", data := .seq vs.toArray n }
section
variable {prog : Program} {w : World} {A : Around} {E : Value → Shared → Prop} {s : Shared} {h₀ : Heap} {L : Addr} {m : Str → Option Value} {news news' : List (Addr × Obj)}
theorem w_newtuple {vs : List Value} {Q : Value → Shared → Prop} (F : Fr h₀ L s.heap m) (N : News h₀ L s.heap news) (hz : vs.length ≤ 1000)
    (h : ∀ D h', Fr h₀ L h' m → News h₀ L h' ((D, tupO vs) :: news) → Below D news → Q (.ref D) { s with heap := h' }) : wpAny (model prog w) A (newTuple vs) Q E s :=
  newTuple_N F N (fun h' F' N' => h _ h' F' N' fun p hp => Heap.lt_size (N p hp).1) (by rw [sizeLine_eq]; omega)
theorem w_newlist {vs : List Value} {Q : Value → Shared → Prop} (F : Fr h₀ L s.heap m) (N : News h₀ L s.heap news) (hz : vs.length ≤ 1000)
    (h : ∀ D h', Fr h₀ L h' m → News h₀ L h' ((D, lst vs) :: news) → Below D news → Q (.ref D) { s with heap := h' }) : wpAny (model prog w) A (newList vs) Q E s :=
  newList_N F N (fun h' F' N' => h _ h' F' N' fun p hp => Heap.lt_size (N p hp).1) (by rw [sizeLine_eq]; omega)
theorem w_truthl {a : Addr} {vs : List Value} {n : Nat} {Q : Bool → Shared → Prop} (ha : s.heap.get? a = some (lst vs n)) (hfit : vs.length ≤ 16777216)
    (h : ∀ k, Q (!vs.isEmpty) { s with toks := k }) : wpAny (model prog w) A (truthy (.ref a)) Q E s :=
  wpAny_truthy_list (items := vs.toArray) ⟨_, ha, rfl, n, rfl⟩ (by rw [List.size_toArray]; omega) (by rw [List.isEmpty_toArray]; exact h _)
theorem w_truthl_snoc {a : Addr} {us : List Value} {v : Value} {n : Nat} {Q : Bool → Shared → Prop} (ha : s.heap.get? a = some (lst (us ++ [v]) n)) (hfit : us.length ≤ 16000000)
    (h : ∀ k, Q true { s with toks := k }) : wpAny (model prog w) A (truthy (.ref a)) Q E s := by
  refine w_truthl ha (by rw [List.length_append, List.length_singleton]; omega) (fun k => ?_)
  have e : (!(us ++ [v]).isEmpty) = true := by cases us <;> rfl
  rw [e]; exact h k
theorem w_tupitem {value slice : Expr} {a : Addr} {vs : List Value} {n : Nat} {k : Int} {u : Tok} {v : Value} {Q : Value → Shared → Prop} (ha : s.heap.get? a = some (tupO vs n)) (h0 : 0 ≤ k) (hk : k < 1000) (hv : vs[k.toNat]? = some v) (h : Q v s)
    (hs : subscripted slice false (.ref a) (.int k u) = operate [.ref a, .int k u] (getItem (.ref a) (.int k u)) := by with_unfolding_all rfl) (hg : ∀ r, letTemporaryGo value (.ref a) r = pure () := by intro _; with_unfolding_all rfl) :
    wpAny (model prog w) A (subscriptTail value slice (.ref a) (.int k u)) Q E s := by
  have ht : IsTup s.heap a vs.toArray := ⟨_, ha, rfl, n, rfl⟩
  have hlen : k.toNat < vs.length := by
    rcases Nat.lt_or_ge k.toNat vs.length with q | q
    · exact q
    · rw [List.getElem?_eq_none q] at hv; cases hv
  refine subscriptTail_builtin ht.typeIs slot_tuple_getitem.lookup (getItem_tuple ht (by omega) (by omega) (StrLaws.seqIndex_nonneg h0 (by rw [List.size_toArray]; omega)) (by simpa using hv) h) hs hg
theorem w_listitem {value slice : Expr} {a : Addr} {vs : List Value} {n : Nat} {k : Int} {u : Tok} {v : Value} {Q : Value → Shared → Prop} (ha : s.heap.get? a = some (lst vs n)) (h0 : 0 ≤ k) (hk : k < 2 ^ 63) (hv : vs[k.toNat]? = some v) (h : Q v s)
    (hs : subscripted slice false (.ref a) (.int k u) = operate [.ref a, .int k u] (getItem (.ref a) (.int k u)) := by with_unfolding_all rfl) :
    wpAny (model prog w) A (subscriptTail value slice (.ref a) (.int k u)) Q E s := item_of ⟨_, ha, rfl, n, rfl⟩ h0 hk hv h hs
theorem w_setlast {D : Addr} {us : List Value} {old v : Value} {n : Nat} {t : Tok} {Q : Unit → Shared → Prop} (F : Fr h₀ L s.heap m) (N : News h₀ L s.heap news) (U : Upd D (lst (us ++ [old]) n) (lst (us ++ [v]) n) news news')
    (h : ∀ h', Fr h₀ L h' m → News h₀ L h' news' → Q () { s with heap := h' }) : wpAny (model prog w) A (setItem (.ref D) (.int (-1) t) v) Q E s := by
  obtain ⟨pre, post, rfl, rfl, a, b⟩ := U.split
  have z := N (D, lst (us ++ [old]) n) (List.mem_append.mpr (.inr (.head _)))
  have hsz : (us ++ [old]).toArray.size = us.length + 1 := by simp
  refine ki_setBack (items := (us ++ [old]).toArray) (n := n) z.1 (by decide) (by rw [hsz]; omega) (by decide) (h _ (F.change (Heap.SameBut.update ..) z.2.1 z.2.2) (ki_turn (its := (us ++ [old]).toArray) (its' := (us ++ [v]).toArray) _ N a b ?_ ?_))
  · rw [hsz]
    apply Array.toList_inj.mp
    have e : ((-1 : Int) + ((us.length + 1 : Nat) : Int)).toNat = us.length := by omega
    rw [e]
    simp
  · simp
theorem w_setat {D : Addr} {us : List Value} {v : Value} {n : Nat} {k : Int} {t : Tok} {Q : Unit → Shared → Prop} (F : Fr h₀ L s.heap m) (N : News h₀ L s.heap news) (h0 : 0 ≤ k) (hk : k < us.length) (hb : us.length ≤ 16777216) (U : Upd D (lst us n) (lst (us.set k.toNat v) n) news news')
    (h : ∀ h', Fr h₀ L h' m → News h₀ L h' news' → Q () { s with heap := h' }) : wpAny (model prog w) A (setItem (.ref D) (.int k t) v) Q E s := by
  obtain ⟨pre, post, rfl, rfl, a, b⟩ := U.split
  have z := N (D, lst us n) (List.mem_append.mpr (.inr (.head _)))
  refine ki_setAt (items := us.toArray) (n := n) z.1 h0 (by omega) (by simpa using hk) (h _ (F.change (Heap.SameBut.update ..) z.2.1 z.2.2) (ki_turn (its := us.toArray) (its' := (us.set k.toNat v).toArray) _ N a b ?_ ?_))
  · apply Array.toList_inj.mp
    simp
  · simp
end
theorem c_cell2 {prog : Program} {w : World} {A : Around} {E : Value → Shared → Prop} {s : Shared} {h₀ : Heap} {L a : Addr} {news : List (Addr × Obj)} {cn : Str} {cs : Scope} {ccd : Value} {x : Str} {v : Value} {pos : Pos} {Q : Value → Shared → Prop} {c : Addr} {o : Obj}
    (hc : (cellsFrom (L + 1) cs.names []).lookup x = some c) (N : News h₀ L s.heap news) (hm : (c, o) ∈ news) (hd : o.data = .cell (some v)) (h : Q v s)
    (hk : cs.kind = .function := by rfl) (hx : (envOfC cn cs L a ccd).kindOf x = some .cell := by rfl) (hb : (x == ("__debug__" : Str)) = false := by decide) :
    wpAny (model prog w) A (eval (.Name x pos) (envOfC cn cs L a ccd)) Q E s := c_cell N hm hd h hc hk hx hb
end
section
local macro_rules | `(tactic| walk_at "eval Name") => `(tactic| first | ((with_reducible show wpAny _ _ (eval _ (genEnv _ _ _ _ _ _)) _ _ _); (k_dflt (first | (refine ldVarG (by assumption) (by assumption) ?_) | (refine ldFreeG (by rfl) (by assumption) ?_)))) | ((with_reducible show wpAny _ _ (eval _ (envOfC _ _ _ _ _)) _ _ _); k_dflt (first | (refine c_local (by k_asm) (by ktr_rel) ?_) | (refine c_cell (by k_asm) (by apart_at) (by assumption) ?_) | (refine c_builtin (by k_asm) (by k_asm) (by k_asm) (by k_is) (by boot_fast) ?_) | (refine c_global (by k_asm) (by k_asm) (by k_asm) (by k_is) ?_))))
local macro_rules | `(tactic| walk_at "storeName") => `(tactic| first | (refine c_store (by k_asm) (by k_asm) (fun h' tk' F' N' => ?_)) | (refine c_storeC (by k_asm) (by k_asm) (by fresh_at) (by assumption) (fun h' o' F' N' d' => ?_)))
local macro_rules | `(tactic| back_in) => `(tactic| repeat' (first | ((fail_if_success (with_reducible show wpAny _ _ (eval (Expr.GeneratorExp _ _ _ _) _) _ _ _)); (fail_if_success (with_reducible show wpAny _ _ (exec (Stmt.If _ _ _ _) _) _ _ _)); (first | (walk1; (try dsimp only)) | (dsimp only; walk1; (try dsimp only))))))
local macro_rules | `(tactic| walk_at "subscriptTail Name Slice str ref") => `(tactic| k_dflt (refine slice_keep (by assumption) (fun h' t' k' hk' => ?_) (by ktr_room)))
local macro_rules | `(tactic| walk_at "call ref") => `(tactic| k_dflt (refine call_para (by k_asm) (by k_asm) (by k_asm) (by k_asm) (by show _ + 1 + 5 < _; omega) (by assumption) (by ktr_room) (fun h' t' tk' F' N' => ?_)))
local macro_rules | `(tactic| walk_at "call builtin:max") => `(tactic| k_dflt (refine max_two_N (by assumption) (by k_asm) (by k_asm) (fun h' k' F' N' => ?_)))
local macro_rules | `(tactic| walk_at "subscriptTail Name UnaryOp ref int") => `(tactic| k_dflt (refine item_last (isList_of (by k_asm) (by apart_at)) ?_))
local macro_rules | `(tactic| walk_at "subscriptTail Name Slice ref ref") => `(tactic| k_dflt (refine w_butlast (by k_asm) (by k_asm) (by apart_at) (by ktr_room) (fun D' h' F' N' => ?_)))
local macro_rules | `(tactic| walk_at "newTuple") => `(tactic| k_dflt (refine w_newtuple (by k_asm) (by k_asm) (Nat.le_of_ble_eq_true rfl) (fun D' h' F' N' l' => ?_)))
local macro_rules | `(tactic| walk_at "newList") => `(tactic| k_dflt (refine w_newlist (by k_asm) (by k_asm) (Nat.le_of_ble_eq_true rfl) (fun D' h' F' N' l' => ?_)))
local macro_rules | `(tactic| walk_at "truthy ref") => `(tactic| k_dflt (first | (refine w_truthl_snoc (by frow_left) (by ktr_room) (fun k' => ?_)) | (refine w_truthl (by frow_left) (by ktr_room) (fun k' => ?_))))
local macro_rules | `(tactic| frow_left) => `(tactic| first | assumption | (refine News.get (by k_asm) ?_; apart_at) | (refine Fr.keep (by k_asm) _ _ ?_; assumption))
local macro_rules | `(tactic| apart_at) => `(tactic| first | assumption | exact List.Mem.head _ | (refine List.Mem.tail _ ?_; apart_at))
local macro_rules | `(tactic| fresh_at) => `(tactic| first | assumption | exact List.forall_mem_nil _ | (refine List.forall_mem_cons.mpr ⟨?_, ?_⟩; (first | assumption | (exact Ne.symm (by assumption)) | (refine Below.gt (by assumption) (by apart_at)) | (refine Ne.symm (Below.gt (by assumption) (by apart_at)))); fresh_at) | (refine' Upd.head ?upa; (case upa => fresh_at)) | (refine' Upd.tail ?upa ?upb; (case upa => (first | assumption | (exact Ne.symm (by assumption)) | (refine Below.gt (by assumption) (by apart_at)) | (refine Ne.symm (Below.gt (by assumption) (by apart_at))))); (case upb => fresh_at)))
local macro_rules | `(tactic| walk_at "subscriptTail Name UnaryOp ref int") => `(tactic| k_dflt (refine item_last (⟨_, by frow_left, rfl, _, rfl⟩) ?_))
local macro_rules | `(tactic| walk_at "subscriptTail Subscript Constant ref int") => `(tactic| k_dflt (first | (refine w_tupitem (by frow_left) (by decide) (by decide) rfl ?_) | (refine w_listitem (by frow_left) (by decide) (by decide) rfl ?_)))
local macro_rules | `(tactic| walk_at "subscriptTail Name Constant ref int") => `(tactic| k_dflt (first | (refine w_tupitem (by frow_left) (by decide) (by decide) rfl ?_) | (refine w_listitem (by frow_left) (by decide) (by decide) rfl ?_)))
local macro_rules | `(tactic| walk_at "setItem ref int") => `(tactic| k_dflt (refine w_setlast (by k_asm) (by k_asm) (by fresh_at) (fun h' F' N' => ?_)))
local macro_rules | `(tactic| walk_at "eval Name") => `(tactic| ((with_reducible show wpAny _ _ (eval _ (envOf _ _ _ _ _)) _ _ _); k_dflt (refine ld (by k_asm) (by ktr_rel) ?_)))
local macro_rules | `(tactic| seq_post) => `(tactic| first | (refine UpdF.head ?_; fresh_at) | (refine' UpdF.tail ?upa ?upb; (case upa => (first | assumption | (exact Ne.symm (by assumption)) | (refine Below.gt (by assumption) (by apart_at)) | (refine Ne.symm (Below.gt (by assumption) (by apart_at))))); (case upb => seq_post)))
local macro_rules | `(tactic| walk_at "eval Name") => `(tactic| ((with_reducible show wpAny _ _ (eval _ (compEnvC _ _ _ _)) _ _ _); k_dflt (first | (refine LCgL.ld_own (by k_asm) (by apart_at) (by assumption) (by assumption) ?_) | (refine lcf_cell (by k_asm) (by rfl) (by apart_at) (by assumption) ?_ (by rfl) (by rfl)) | (refine lcf_free (by k_asm) (by rfl) (by apart_at) (by assumption) ?_ (by rfl) (by rfl)))))
local macro_rules | `(tactic| walk_at "eval Name") => `(tactic| ((with_reducible show wpAny _ _ (eval _ (envOfC _ _ _ _ _)) _ _ _); k_dflt (first | (refine c_local (by k_asm) (by ktr_rel) ?_) | (refine c_cell2 (by rfl) (by k_asm) (by apart_at) (by assumption) ?_) | (refine c_builtin (by k_asm) (by k_asm) (by k_asm) (by k_is) (by boot_fast) ?_) | (refine c_global (by k_asm) (by k_asm) (by k_asm) (by k_is) ?_))))
local macro_rules | `(tactic| law_side) => `(tactic| repeat' (first | ((fail_if_success (with_reducible show wpAny _ _ (exec (Stmt.Assign _ (Expr.ListComp _ _ _ _) _) _) _ _ _)); (fail_if_success (with_reducible show wpAny _ _ (eval (Expr.ListComp _ _ _ _) _) _ _ _)); (fail_if_success (with_reducible show wpAny _ _ (exec (Stmt.If _ _ _ _) _) _ _ _)); (first | (walk1; (try dsimp only)) | (dsimp only; walk1; (try dsimp only))))))
section
theorem list_ne_tup {h : Heap} {a b : Addr} {vs ws : List Value} {n k : Nat} (ha : h.get? a = some (lst vs n)) (hb : h.get? b = some (tupO ws k)) : a ≠ b := by
  intro e
  rw [e, hb] at ha
  have := congrArg Obj.cls (Option.some.inj ha)
  exact absurd this (by simp)
set_option maxHeartbeats 8000000 in
theorem code_bare0 : ∀ {w : World} {A : Around} {s : Shared} {mg mb : Str → Option Value} {p : Addr} {n : Nat} {R : Result → Shared → Prop}
    (X : (hd.heap_39 w.params).In s.heap) (T : TR mg mb s.heap) (hroom : A.depth < recursionLimit) (hp : s.heap.get? p = some (lst [] n))
    (hR : ∀ h' tk, s.heap.StaysIn h' → R (.ok (.ret .none)) { s with heap := h', toks := tk }),
   codeAny (model PySem.Challenge.rw_sc0019_01.prog w) A (.call (.ref 88) ⟨[.ref p], []⟩) R s := by
  k_fill
  intro w A s mg mb p n R X T hroom hp hR
  refine enter (news := []) X T (fun _ h => nomatch h) (by k_is) (by k_is) hroom (BindsTo.of_eq rfl) (locs rfl) (fun L h₁ F N => ?_)
  change Fr s.heap L h₁ (mp [(Str.ofString "pairs", .ref p)]) at F
  change News s.heap L h₁ [] at N
  ktr_unf
  exact hR _ _ (Fr.keep (by assumption))
set_option maxHeartbeats 8000000 in
theorem code_bare : ∀ {w : World} {A : Around} {s : Shared} {mg mb : Str → Option Value} {p ta : Addr} {us : List Value} {n nt : Nat} {x g : Str} {t1 t2 : Tok} {R : Result → Shared → Prop}
    (X : (hd.heap_39 w.params).In s.heap) (T : TR mg mb s.heap) (hroom : A.depth < recursionLimit) (hp : s.heap.get? p = some (lst (us ++ [.ref ta]) n)) (hta : s.heap.get? ta = some (tupO [.str x t1, .str g t2] nt)) (hul : us.length ≤ 1000)
    (hR : ∀ h' tk tb t, (∀ b o, b ≠ p → s.heap.get? b = some o → h'.get? b = some o) → h'.get? p = some (lst (us ++ [.ref tb]) n) → h'.get? tb = some (tupO [.str x t1, .str (Str.ofString "") t]) → s.heap.get? tb = none → R (.ok (.ret .none)) { s with heap := h', toks := tk }),
   codeAny (model PySem.Challenge.rw_sc0019_01.prog w) A (.call (.ref 88) ⟨[.ref p], []⟩) R s := by
  k_fill
  intro w A s mg mb p ta us n nt x g t1 t2 R X T hroom hp hta hul hR
  have hne : p ≠ ta := list_ne_tup hp hta
  refine enter (news := [(p, lst (us ++ [.ref ta]) n)]) X T (fun q h => ?_) (by k_is) (by k_is) hroom (BindsTo.of_eq rfl) (locs rfl) (fun L h₁ F N => ?_)
  · rw [List.mem_singleton.mp h]; exact hp
  change Fr (hideAll s.heap [p]) L h₁ (mp [(Str.ofString "pairs", .ref p)]) at F
  change News (hideAll s.heap [p]) L h₁ [(p, lst (us ++ [.ref ta]) n)] at N
  have hk : ∀ b o, b ≠ p → s.heap.get? b = some o → (hideAll s.heap [p]).get? b = some o := fun b o hb e => hideAll_get _ e fun q => hb (List.mem_singleton.mp q)
  have hta' := hk ta _ (Ne.symm hne) hta
  have hfr : ∀ b, (hideAll s.heap [p]).get? b = none → b ≠ p → s.heap.get? b = none := fun b e hb => by
    cases q : s.heap.get? b with
    | none => rfl
    | some o => rw [hk b o hb q] at e; cases e
  generalize hideAll s.heap [p] = g₀ at F N hk hta' hfr
  ktr_unf
  rename Fr _ _ _ _ => F'
  rename News _ _ _ _ => N'
  rename Below _ _ => l'
  exact hR _ _ _ _ (fun b o hb e => F'.keep b o (hk b o hb e)) (N' _ (.tail _ (.head _))).1 (N' _ (.head _)).1 (hfr _ (N' _ (.head _)).2.2 (Below.gt l' (.head _)))
section
variable {w : World} {A : Around} {E : Value → Shared → Prop} {s : Shared} {h₀ : Heap} {L : Addr} {m mg mb : Str → Option Value} {news : List (Addr × Obj)}
theorem call_bare0 {pa : Addr} {n : Nat} {Q : Value → Shared → Prop} (F : Fr h₀ L s.heap m) (N : News h₀ L s.heap news) (X₀ : (hd.heap_39 w.params).In h₀) (T₀ : TR mg mb h₀) (hroom : A.depth < recursionLimit) (hm : (pa, lst [] n) ∈ news)
    (h : ∀ h' tk, Fr h₀ L h' m → News h₀ L h' news → Q .none { s with heap := h', toks := tk }) : wpAny (model PySem.Challenge.rw_sc0019_01.prog w) A (call (.ref 88) [.ref pa] []) Q E s :=
  wpAny_call (code_bare0 (X₀.keeps F.keep) (T₀.keeps F.keep) hroom (News.get N hm) fun h' tk k => h h' tk (Fr.ext F k) (News.ext N k))
theorem call_bare1 {pa ta : Addr} {us : List Value} {n nt : Nat} {x g : Str} {t1 t2 : Tok} {G : Obj → List (Addr × Obj)} {Q : Value → Shared → Prop} (F : Fr h₀ L s.heap m) (N : News h₀ L s.heap news) (X₀ : (hd.heap_39 w.params).In h₀) (T₀ : TR mg mb h₀) (hroom : A.depth < recursionLimit)
    (U : UpdF pa (lst (us ++ [.ref ta]) n) news G) (hta : s.heap.get? ta = some (tupO [.str x t1, .str g t2] nt)) (hul : us.length ≤ 1000)
    (h : ∀ h' tk tb t, Fr h₀ L h' m → News h₀ L h' ((tb, tupO [.str x t1, .str (Str.ofString "") t]) :: G (lst (us ++ [.ref tb]) n)) → (∀ p ∈ news, p.1 ≠ tb) → Q .none { s with heap := h', toks := tk }) :
    wpAny (model PySem.Challenge.rw_sc0019_01.prog w) A (call (.ref 88) [.ref pa] []) Q E s := by
  obtain ⟨pre, post, rfl, hG, a, b⟩ := U.split
  have z := N (pa, lst (us ++ [.ref ta]) n) (List.mem_append.mpr (.inr (.head _)))
  refine wpAny_call (code_bare (X₀.keeps F.keep) (T₀.keeps F.keep) hroom z.1 hta hul fun h' tk tb t hk hp ht hf => ?_)
  have hLp : L ≠ pa := Ne.symm z.2.1
  have hold : ∀ b o, h₀.get? b = some o → h'.get? b = some o := fun b o e => hk b o (fun q => by rw [q, z.2.2] at e; cases e) (F.keep b o e)
  refine h h' tk tb t ⟨F.ns.at' fun o e => hk _ o hLp e, hold, F.above⟩ ?_ ?_
  · rw [hG]
    intro p hp'
    rcases List.mem_cons.mp hp' with rfl | hp'
    · refine ⟨ht, fun q => ?_, ?_⟩
      · obtain ⟨o, _, _, ho, _⟩ := F.ns
        dsimp only at q
        rw [q, ho] at hf; cases hf
      · cases q : h₀.get? tb with
        | none => rfl
        | some o => have := F.keep _ _ q; rw [hf] at this; cases this
    · rcases List.mem_append.mp hp' with q | q
      · have := N p (List.mem_append.mpr (.inl q))
        exact ⟨hk _ _ (a p q) this.1, this.2⟩
      · rcases List.mem_cons.mp q with rfl | q
        · exact ⟨hp, z.2⟩
        · have := N p (List.mem_append.mpr (.inr (.tail _ q)))
          exact ⟨hk _ _ (b p q) this.1, this.2⟩
  · intro p hp' e
    have := (N p hp').1
    rw [e, hf] at this; cases this
end
end
section
/-! the rows that the law builds -/
def lawWords : List Pair := [(Str.ofString "a", Str.ofString " "), (Str.ofString "bcd", Str.ofString " "), (Str.ofString "é", Str.ofString "  "), (Str.ofString "ghijk", Str.ofString "\t"), (Str.ofString "#x", Str.ofString " \x0c"), (Str.ofString "mnopqrstu", Str.ofString " ")]
def lawLeads : List Str := [Str.ofString "", Str.ofString "  ", Str.ofString "\t ", Str.ofString " \x0c"]
def wordAt (k : Nat) : Pair := lawWords.getD k (Str.ofString "a", Str.ofString " ")
def leadAt (k : Nat) : Str := lawLeads.getD k Str.empty
def bareP : List Pair → List Pair
  | [] => []
  | [p] => [(p.1, Str.ofString "")]
  | p :: q :: r => p :: bareP (q :: r)
theorem bareP_snoc (p : Pair) : ∀ us : List Pair, bareP (us ++ [p]) = us ++ [(p.1, Str.ofString "")]
  | [] => rfl
  | [a] => rfl
  | a :: b :: r => by
    have := bareP_snoc p (b :: r)
    show a :: bareP (b :: r ++ [p]) = _
    rw [this]; rfl
def bareIf (c : Bool) (l : List Pair) : List Pair := if c then bareP l else l
def rowsStep (st : List PRow × PRow) (n : Int) : List PRow × PRow :=
  if n % 10 < 6 then (st.1, (st.2.1, st.2.2 ++ [wordAt (n % 10).toNat])) else (st.1 ++ [(st.2.1, bareIf (n / 10 % 2 == 0) st.2.2)], (leadAt (n % 10 - 6).toNat, []))
def rowsFold (deal : List Int) : List PRow × PRow := deal.foldl rowsStep ([], (Str.ofString "", []))
def rowsOf (deal : List Int) (total : Int) : List PRow := (rowsFold deal).1 ++ [((rowsFold deal).2.1, bareIf (total % 2 == 0) (rowsFold deal).2.2)]

def blOk (l : List Nat) : Bool := l.all fun c => !Unicode.isSpace c
def whOk (l : List Nat) : Bool := l.all Unicode.isSpace
theorem bl_of {l : List Nat} (h : blOk l = true) : Bl l := fun c hc => by
  have := List.all_eq_true.mp h c hc
  simpa using this
theorem wh_of {l : List Nat} (h : whOk l = true) : Wh l := fun c hc => List.all_eq_true.mp h c hc
def pairOk (p : Pair) : Bool := blOk (tl p.1) && !(tl p.1).isEmpty && (whOk (tl p.2) && !(tl p.2).isEmpty && !(tl p.2).contains 10) && !(tl p.1).contains 9 && Nat.ble ((tl p.1).length + (tl p.2).length) 10
theorem lawWords_ok : lawWords.all pairOk = true := by decide +kernel
def leadOk (x : Str) : Bool := whOk (tl x) && !(tl x).contains 10 && (tl (frontOf x) == (tl x).takeWhile isBlank) && Nat.ble (tl x).length 2
theorem lawLeads_ok : lawLeads.all leadOk = true := by decide +kernel
theorem word_ok {p : Pair} (h : pairOk p = true) : isWord p.1 ∧ isGap p.2 ∧ 9 ∉ tl p.1 ∧ (tl p.1).length + (tl p.2).length ≤ 10 := by
  unfold pairOk at h
  simp only [Bool.and_eq_true, Bool.not_eq_true', List.isEmpty_eq_false_iff, List.contains_eq_mem, decide_eq_false_iff_not, Nat.ble_eq] at h
  obtain ⟨⟨⟨⟨h1, h2⟩, ⟨⟨h3, h4⟩, h5⟩⟩, h6⟩, h7⟩ := h
  exact ⟨⟨bl_of h1, h2⟩, ⟨wh_of h3, h4, h5⟩, h6, h7⟩
theorem lead_ok {x : Str} (h : leadOk x = true) : isLead x ∧ tl (frontOf x) = (tl x).takeWhile isBlank ∧ (tl x).length ≤ 2 := by
  unfold leadOk at h
  simp only [Bool.and_eq_true, Bool.not_eq_true', List.contains_eq_mem, decide_eq_false_iff_not, Nat.ble_eq, beq_iff_eq] at h
  obtain ⟨⟨⟨h1, h2⟩, h3⟩, h4⟩ := h
  exact ⟨⟨wh_of h1, h2⟩, h3, h4⟩
theorem wordAt_mem {k : Nat} (hk : k < 6) : wordAt k ∈ lawWords := by
  unfold wordAt
  have hl : lawWords.length = 6 := rfl
  rw [List.getD_eq_getElem?_getD, List.getElem?_eq_getElem (by omega)]
  exact List.getElem_mem _
theorem leadAt_mem {k : Nat} (hk : k < 4) : leadAt k ∈ lawLeads := by
  unfold leadAt
  have hl : lawLeads.length = 4 := rfl
  rw [List.getD_eq_getElem?_getD, List.getElem?_eq_getElem (by omega)]
  exact List.getElem_mem _
/-- what is so of every row of the law's -/
structure LRow (r : PRow) : Prop where
  ok : RowOk r
  front : tl (frontOf r.1) = (tl r.1).takeWhile isBlank
  short : (tl r.1).length ≤ 2
  noTab : ∀ p ∈ r.2, 9 ∉ tl p.1
  small : ∀ p ∈ r.2, (tl p.1).length + (tl p.2).length ≤ 10
theorem pairsOk_of : ∀ l : List Pair, (∀ p ∈ l, pairOk p = true) → PairsOk l
  | [], _ => trivial
  | [p], h => ⟨(word_ok (h p (List.mem_cons_self ..))).1, .inl (word_ok (h p (List.mem_cons_self ..))).2.1⟩
  | p :: q :: r, h => ⟨(word_ok (h p (List.mem_cons_self ..))).1, (word_ok (h p (List.mem_cons_self ..))).2.1, pairsOk_of (q :: r) fun x hx => h x (List.mem_cons_of_mem _ hx)⟩
theorem pairsOk_bare : ∀ l : List Pair, (∀ p ∈ l, pairOk p = true) → PairsOk (bareP l)
  | [], _ => trivial
  | [p], h => ⟨(word_ok (h p (List.mem_cons_self ..))).1, .inr rfl⟩
  | p :: q :: r, h => by
    have hp := word_ok (h p (List.mem_cons_self ..))
    have ih := pairsOk_bare (q :: r) fun x hx => h x (List.mem_cons_of_mem _ hx)
    unfold bareP
    cases e : bareP (q :: r) with
    | nil => exact ⟨hp.1, .inl hp.2.1⟩
    | cons a b => rw [e] at ih; exact ⟨hp.1, hp.2.1, ih⟩
theorem bare_mem : ∀ (l : List Pair) (p : Pair), p ∈ bareP l → ∃ q ∈ l, q.1 = p.1 ∧ (p.2 = q.2 ∨ p.2 = Str.ofString "")
  | [], _, h => nomatch h
  | [a], p, h => by rw [List.mem_singleton.mp h]; exact ⟨a, List.mem_cons_self .., rfl, .inr rfl⟩
  | a :: b :: r, p, h => by
    unfold bareP at h
    rcases List.mem_cons.mp h with rfl | h
    · exact ⟨p, List.mem_cons_self .., rfl, .inl rfl⟩
    · obtain ⟨q, hq, e⟩ := bare_mem (b :: r) p h
      exact ⟨q, List.mem_cons_of_mem _ hq, e⟩
theorem lrow_of {x : Str} {l : List Pair} {c : Bool} (hx : leadOk x = true) (hl : ∀ p ∈ l, pairOk p = true) : LRow (x, bareIf c l) := by
  obtain ⟨h1, h2, h3⟩ := lead_ok hx
  cases c with
  | false => exact ⟨⟨h1, pairsOk_of l hl⟩, h2, h3, fun p hp => (word_ok (hl p hp)).2.2.1, fun p hp => (word_ok (hl p hp)).2.2.2⟩
  | true =>
    refine ⟨⟨h1, pairsOk_bare l hl⟩, h2, h3, fun p hp => ?_, fun p hp => ?_⟩
    · obtain ⟨q, hq, e, _⟩ := bare_mem l p hp
      rw [← e]; exact (word_ok (hl q hq)).2.2.1
    · obtain ⟨q, hq, e, e2⟩ := bare_mem l p hp
      have := (word_ok (hl q hq)).2.2.2
      rw [← e]
      rcases e2 with e2 | e2
      · rw [e2]; exact this
      · rw [e2]; show (tl q.1).length + 0 ≤ 10; omega
theorem bareIf_len (c : Bool) : ∀ l : List Pair, (bareIf c l).length = l.length := by
  intro l
  cases c with
  | false => rfl
  | true =>
    show (bareP l).length = l.length
    induction l with
    | nil => rfl
    | cons a r ih =>
      cases r with
      | nil => rfl
      | cons b r => unfold bareP; rw [List.length_cons, ih]; rfl
/-- how many pairs and rows -/
def tally (l : List PRow) : Nat := (l.map fun r => r.2.length + 1).sum
structure StOk (k : Nat) (st : List PRow × PRow) : Prop where
  done : ∀ r ∈ st.1, LRow r
  lead : leadOk st.2.1 = true
  cur : ∀ p ∈ st.2.2, pairOk p = true
  count : tally st.1 + st.2.2.length ≤ k
theorem tally_snoc (l : List PRow) (r : PRow) : tally (l ++ [r]) = tally l + (r.2.length + 1) := by unfold tally; simp
theorem step_ok {k : Nat} {st : List PRow × PRow} (h : StOk k st) (n : Int) : StOk (k + 1) (rowsStep st n) := by
  have h10 : 0 ≤ n % 10 := Int.emod_nonneg _ (by decide)
  have h10' : n % 10 < 10 := Int.emod_lt_of_pos _ (by decide)
  have hc := h.count
  unfold rowsStep
  split
  · refine ⟨h.done, h.lead, fun p hp => ?_, ?_⟩
    · rcases List.mem_append.mp hp with q | q
      · exact h.cur p q
      · rw [List.mem_singleton.mp q]
        exact List.all_eq_true.mp lawWords_ok _ (wordAt_mem (by omega))
    · dsimp only; rw [List.length_append, List.length_singleton]; omega
  · refine ⟨fun r hr => ?_, List.all_eq_true.mp lawLeads_ok _ (leadAt_mem (by omega)), fun p hp => (nomatch hp), ?_⟩
    · rcases List.mem_append.mp hr with q | q
      · exact h.done r q
      · rw [List.mem_singleton.mp q]; exact lrow_of h.lead h.cur
    · dsimp only
      rw [tally_snoc, bareIf_len]
      show _ + 0 ≤ _
      omega
theorem fold_ok : ∀ (deal : List Int) (k : Nat) (st : List PRow × PRow), StOk k st → StOk (k + deal.length) (deal.foldl rowsStep st)
  | [], _, _, h => h
  | n :: r, k, st, h => by
    have := fold_ok r (k + 1) _ (step_ok h n)
    rw [List.foldl_cons, List.length_cons, show k + (r.length + 1) = k + 1 + r.length by omega]
    exact this
theorem rowsFold_ok (deal : List Int) : StOk deal.length (rowsFold deal) := by
  have := fold_ok deal 0 ([], (Str.ofString "", [])) ⟨fun _ h => (nomatch h), by decide +kernel, fun _ h => (nomatch h), Nat.le_refl _⟩
  rw [Nat.zero_add] at this
  exact this
theorem rowsOf_ok (deal : List Int) (total : Int) : (∀ r ∈ rowsOf deal total, LRow r) ∧ rowsOf deal total ≠ [] ∧ tally (rowsOf deal total) ≤ deal.length + 1 := by
  have h := rowsFold_ok deal
  refine ⟨fun r hr => ?_, ?_, ?_⟩
  · rcases List.mem_append.mp hr with q | q
    · exact h.done r q
    · rw [List.mem_singleton.mp q]; exact lrow_of h.lead h.cur
  · unfold rowsOf; simp
  · unfold rowsOf
    rw [tally_snoc, bareIf_len]
    have := h.count
    omega
end
section
/-! how the law's rows lie on the heap -/
inductive All2 {α β : Type} (R : α → β → Prop) : List α → List β → Prop
  | nil : All2 R [] []
  | cons {a b l k} : R a b → All2 R l k → All2 R (a :: l) (b :: k)
namespace All2
variable {α β : Type} {R S : α → β → Prop}
theorem mono (h : ∀ a b, R a b → S a b) : ∀ {l : List α} {k : List β}, All2 R l k → All2 S l k
  | _, _, .nil => .nil
  | _, _, .cons x y => .cons (h _ _ x) (y.mono h)
theorem app : ∀ {l : List α} {k : List β} {l' : List α} {k' : List β}, All2 R l k → All2 R l' k' → All2 R (l ++ l') (k ++ k')
  | _, _, _, _, .nil, y => y
  | _, _, _, _, .cons a x, y => .cons a (x.app y)
theorem one {a : α} {b : β} (h : R a b) : All2 R [a] [b] := .cons h .nil
theorem length : ∀ {l : List α} {k : List β}, All2 R l k → l.length = k.length
  | _, _, .nil => rfl
  | _, _, .cons _ y => by rw [List.length_cons, List.length_cons, y.length]
theorem get : ∀ {l : List α} {k : List β}, All2 R l k → ∀ {i : Nat} {b : β}, k[i]? = some b → ∃ a, l[i]? = some a ∧ R a b
  | _, _, .nil, _, _, h => by simp at h
  | _, _, .cons x _, 0, _, h => ⟨_, rfl, by simpa using (Option.some.inj h) ▸ x⟩
  | _, _, .cons _ y, i + 1, _, h => y.get (i := i) h
theorem get' : ∀ {l : List α} {k : List β}, All2 R l k → ∀ {i : Nat} {a : α}, l[i]? = some a → ∃ b, k[i]? = some b ∧ R a b
  | _, _, .nil, _, _, h => by simp at h
  | _, _, .cons x _, 0, _, h => ⟨_, rfl, by simpa using (Option.some.inj h) ▸ x⟩
  | _, _, .cons _ y, i + 1, _, h => y.get' (i := i) h
theorem snoc : ∀ {l : List α} {k : List β} {b : β}, All2 R l (k ++ [b]) → ∃ l' a, l = l' ++ [a] ∧ All2 R l' k ∧ R a b
  | _, [], _, .cons x .nil => ⟨[], _, rfl, .nil, x⟩
  | _, _ :: _, _, .cons x y => by
    obtain ⟨l', a, rfl, h1, h2⟩ := y.snoc
    exact ⟨_ :: l', a, rfl, .cons x h1, h2⟩
end All2
def PairBy (At : Addr → Obj → Prop) (v : Value) (p : Pair) : Prop := ∃ a n t1 t2, v = .ref a ∧ At a (tupO [.str p.1 t1, .str p.2 t2] n)
def RowBy (At : Addr → Obj → Prop) (v : Value) (r : PRow) : Prop := ∃ a n t b vs k, v = .ref a ∧ At a (lst [.str r.1 t, .ref b] n) ∧ At b (lst vs k) ∧ All2 (PairBy At) vs r.2
theorem PairBy.mono {At At' : Addr → Obj → Prop} (h : ∀ a o, At a o → At' a o) {v : Value} {p : Pair} (x : PairBy At v p) : PairBy At' v p := by
  obtain ⟨a, n, t1, t2, e, x⟩ := x
  exact ⟨a, n, t1, t2, e, h _ _ x⟩
theorem RowBy.mono {At At' : Addr → Obj → Prop} (h : ∀ a o, At a o → At' a o) {v : Value} {r : PRow} (x : RowBy At v r) : RowBy At' v r := by
  obtain ⟨a, n, t, b, vs, k, e, x, y, z⟩ := x
  exact ⟨a, n, t, b, vs, k, e, h _ _ x, h _ _ y, z.mono fun _ _ => PairBy.mono h⟩
abbrev InL (news : List (Addr × Obj)) (a : Addr) (o : Obj) : Prop := (a, o) ∈ news
abbrev InH (h : Heap) (a : Addr) (o : Obj) : Prop := h.get? a = some o
/-- the rows, as a list on the heap, or on a ledger -/
def RowsBy (At : Addr → Obj → Prop) (R : Addr) (rows : List PRow) : Prop := ∃ vs n, At R (lst vs n) ∧ All2 (RowBy At) vs rows
theorem RowsBy.mono {At At' : Addr → Obj → Prop} (h : ∀ a o, At a o → At' a o) {R : Addr} {rows : List PRow} (x : RowsBy At R rows) : RowsBy At' R rows := by
  obtain ⟨vs, n, a, b⟩ := x
  exact ⟨vs, n, h _ _ a, b.mono fun _ _ => RowBy.mono h⟩
section
variable {prog : Program} {w : World} {A : Around} {E : Value → Shared → Prop} {s : Shared} {h₀ : Heap} {L : Addr} {m : Str → Option Value} {news news' : List (Addr × Obj)}
theorem w_menu {value slice : Expr} {a : Addr} {vs : List Value} {n : Nat} {k : Int} {u : Tok} {Q : Value → Shared → Prop} (ha : s.heap.get? a = some (lst vs n)) (h0 : 0 ≤ k) (hk : k < (vs.length : Int)) (hb : vs.length ≤ 1000) (h : Q (vs.getD k.toNat .none) s)
    (hs : subscripted slice false (.ref a) (.int k u) = operate [.ref a, .int k u] (getItem (.ref a) (.int k u)) := by with_unfolding_all rfl) :
    wpAny (model prog w) A (subscriptTail value slice (.ref a) (.int k u)) Q E s := by
  refine w_listitem ha h0 (by omega) ?_ h hs
  rw [List.getD_eq_getElem?_getD, List.getElem?_eq_getElem (by omega)]; rfl
theorem w_menuS {value slice : Expr} {a : Addr} {vs : List Value} {xs : List Str} {n : Nat} {k : Int} {u : Tok} {Q : Value → Shared → Prop} (ha : s.heap.get? a = some (lst vs n)) (hx : StrsAre vs xs) (h0 : 0 ≤ k) (hk : k < (xs.length : Int)) (hb : xs.length ≤ 1000) (h : ∀ t, Q (.str (xs.getD k.toNat Str.empty) t) s)
    (hs : subscripted slice false (.ref a) (.int k u) = operate [.ref a, .int k u] (getItem (.ref a) (.int k u)) := by with_unfolding_all rfl) :
    wpAny (model prog w) A (subscriptTail value slice (.ref a) (.int k u)) Q E s := by
  obtain ⟨t, ht⟩ := strsAre_get hx (i := k.toNat) (by omega)
  exact w_listitem ha h0 (by omega) ht (h t) hs
end
/-- the rows under way, on the ledger -/
structure RowsLed (news : List (Addr × Obj)) (R WL LL : Addr) (st : List PRow × PRow) (refs : List Value) (nR : Nat) (ra pa : Addr) (tl : Tok) (na : Nat) (vs : List Value) (np : Nat) (wv : List Value) (nw : Nat) (lv : List Value) (nl : Nat) (rest : List (Addr × Obj)) : Prop where
  eq : news = (R, lst (refs ++ [.ref ra]) nR) :: (pa, lst vs np) :: (ra, lst [.str st.2.1 tl, .ref pa] na) :: rest
  d1 : R ≠ pa
  d2 : ra ≠ R
  d3 : ra ≠ pa
  f1 : ∀ p ∈ rest, p.1 ≠ R
  f2 : ∀ p ∈ rest, p.1 ≠ pa
  words : (WL, lst wv nw) ∈ rest
  wordsAre : All2 (PairBy (InL rest)) wv lawWords
  leads : (LL, lst lv nl) ∈ rest
  leadsAre : StrsAre lv lawLeads
  done : All2 (RowBy (InL rest)) refs st.1
  cur : All2 (PairBy (InL rest)) vs st.2.2
def Rows7 (m : Str → Option Value) (R WL LL : Addr) (total : Int) (tt : Tok) : Prop :=
  m (Str.ofString "rows") = some (.ref R) ∧ m (Str.ofString "words") = some (.ref WL) ∧ m (Str.ofString "leads") = some (.ref LL) ∧ m (Str.ofString "total") = some (.int total tt)
theorem word_by {At : Addr → Obj → Prop} {wv : List Value} (h : All2 (PairBy At) wv lawWords) {k : Nat} (hk : k < 6) : PairBy At (wv.getD k .none) (wordAt k) := by
  have e : lawWords[k]? = some (wordAt k) := by
    have hl : lawWords.length = 6 := rfl
    unfold wordAt
    rw [List.getD_eq_getElem?_getD, List.getElem?_eq_getElem (by omega)]; rfl
  obtain ⟨a, h1, h2⟩ := h.get e
  rw [List.getD_eq_getElem?_getD, h1]; exact h2
theorem All2.snoc_or {α β : Type} {R : α → β → Prop} {l : List α} {k : List β} (h : All2 R l k) : (l = [] ∧ k = []) ∨ ∃ l' a k' b, l = l' ++ [a] ∧ k = k' ++ [b] ∧ All2 R l' k' ∧ R a b := by
  rcases List.eq_nil_or_concat k with e | ⟨k', b, e⟩
  · subst e
    cases h
    exact .inl ⟨rfl, rfl⟩
  · rw [List.concat_eq_append] at e
    subst e
    obtain ⟨l', a, rfl, h1, h2⟩ := h.snoc
    exact .inr ⟨l', a, k', b, rfl, rfl, h1, h2⟩
theorem bareIf_nil (c : Bool) : bareIf c [] = [] := by cases c <;> rfl
end
section
/-! the program's fold over the words, and the law's stretches of the endless row: the same -/
theorem blank_tl : tl blank = [32] := rfl
theorem wordStep_eq {lim : Int} {i1 i2 : Str} {st : List Str × Str} {w : Str × Bool} (hw : w.1.length ≠ 0) :
    wordStep lim i1 i2 st w = if ((expand (st.2 ++ w.1)).length : Int) > lim ∧ st.2 ≠ i1 then (st.1 ++ [Txt.rstrip st.2], i2 ++ mk (tl w.1 ++ bl w.2)) else (st.1, st.2 ++ mk (tl w.1 ++ bl w.2)) := by
  have e : ∀ p : Str, (if w.2 = true then p ++ w.1 ++ blank ++ blank else p ++ w.1 ++ blank) = p ++ mk (tl w.1 ++ bl w.2) := by
    intro p
    apply tl_inj
    cases w.2 with
    | true => rw [if_pos rfl, tl_app, tl_app, tl_app, tl_app, tl_mk, blank_tl]; simp [bl]
    | false => rw [if_neg (by simp), tl_app, tl_app, tl_app, tl_mk, blank_tl]; simp [bl]
  unfold wordStep
  rw [if_neg hw]
  dsimp only
  split
  · rw [e]
  · rw [e]
theorem skip_fold {lim : Int} {i1 i2 : Str} : ∀ (l : List (Str × Bool)) (st : List Str × Str), (∀ z ∈ l, z.1.length = 0) → l.foldl (wordStep lim i1 i2) st = st
  | [], _, _ => rfl
  | a :: r, st, h => by
    rw [List.foldl_cons]
    have : wordStep lim i1 i2 st a = st := by unfold wordStep; rw [if_pos (h a (List.mem_cons_self ..))]
    rw [this, skip_fold r st fun z hz => h z (List.mem_cons_of_mem _ hz)]
theorem line_fold {lim : Int} {i1 i2 : Str} {st : List Str × Str} {r : PRow} (h : RowOk r) (hn : r.2 ≠ []) : lineStep lim i1 i2 st (rowText r) = (paired r.2).foldl (wordStep lim i1 i2) st := by
  obtain ⟨pre, tail, e, h1, h2⟩ := words_row h hn
  unfold lineStep
  rw [e, List.foldl_append, List.foldl_append, skip_fold pre st h1, skip_fold tail _ h2]
theorem run_fold {lim : Int} {i1 i2 : Str} : ∀ (rs : List PRow) (st : List Str × Str), (∀ r ∈ rs, RowOk r ∧ r.2 ≠ []) → (rs.map rowText).foldl (lineStep lim i1 i2) st = (paired (rs.flatMap (·.2))).foldl (wordStep lim i1 i2) st
  | [], _, _ => rfl
  | r :: rs, st, h => by
    have hr := h r (List.mem_cons_self ..)
    rw [List.map_cons, List.foldl_cons, line_fold hr.1 hr.2, run_fold rs _ fun z hz => h z (List.mem_cons_of_mem _ hz), List.flatMap_cons]
    unfold paired
    rw [List.map_append, List.foldl_append]
/-- the words of the run: each a word, none with a tab -/
def WsOk (l : List Pair) : Prop := ∀ p ∈ l, isWord p.1 ∧ 9 ∉ tl p.1
theorem paired_len (l : List Pair) : (paired l).length = l.length := by unfold paired; rw [List.length_map]
theorem wAt_ok {l : List Pair} (h : WsOk l) {k : Nat} (hk : k < l.length) : isWord (wAt (paired l) k).1 ∧ 9 ∉ tl (wAt (paired l) k).1 := by
  have hk' : k < (paired l).length := by rw [paired_len]; exact hk
  rw [← wAt_is hk']
  have e : (paired l)[k] = ((l[k]).1, twoOf (l[k]).2) := by simp [paired]
  rw [e]
  exact h _ (List.getElem_mem _)
theorem endl_noTab {l : List Pair} (h : WsOk l) : 9 ∉ endl (paired l) := by
  unfold endl paired
  intro hm
  obtain ⟨w, hw, hc⟩ := List.mem_flatMap.mp hm
  obtain ⟨p, hp, rfl⟩ := List.mem_map.mp hw
  rcases List.mem_append.mp hc with q | q
  · exact (h p hp).2 q
  · unfold bl at q
    dsimp only at q
    split at q <;> simp at q
theorem sub_mem {l : List Nat} {a b c : Nat} (h : c ∈ sub l a b) : c ∈ l := List.mem_of_mem_drop (List.mem_of_mem_take h)
theorem sub_len {l : List Nat} {a b : Nat} (hb : b ≤ l.length) : (sub l a b).length = b - a := by
  unfold sub
  rw [List.length_take, List.length_drop]; omega
theorem eAt_le {ws : List (Str × Bool)} {k : Nat} (hk : k < ws.length) : eAt ws k ≤ sAt ws (k + 1) := by rw [sAt_succ hk]; omega
theorem sAt_le_e (ws : List (Str × Bool)) (k : Nat) : sAt ws k ≤ eAt ws k := by unfold eAt; omega
theorem sub_run {ws : List (Str × Bool)} {b k : Nat} (hb : b ≤ k) (hk : k < ws.length) : sub (endl ws) (sAt ws b) (sAt ws (k + 1)) = sub (endl ws) (sAt ws b) (sAt ws k) ++ (tl (wAt ws k).1 ++ bl (wAt ws k).2) := by
  rw [← sub_word hk, ← sub_blank hk, sub_app _ (sAt_le_e ws k) (eAt_le hk), sub_app _ (sAt_mono hb (by omega)) (Nat.le_trans (sAt_le_e ws k) (eAt_le hk))]
theorem sub_self (l : List Nat) (a : Nat) : sub l a a = [] := by unfold sub; simp
theorem sub_toE {ws : List (Str × Bool)} {b k : Nat} (hb : b ≤ k) (hk : k < ws.length) : sub (endl ws) (sAt ws b) (eAt ws k) = sub (endl ws) (sAt ws b) (sAt ws k) ++ tl (wAt ws k).1 := by
  rw [← sub_word hk, sub_app _ (sAt_mono hb (by omega)) (sAt_le_e ws k)]
theorem eAt_end {ws : List (Str × Bool)} {k : Nat} (hk : k < ws.length) : eAt ws k ≤ (endl ws).length := by
  rw [← sAt_all]
  exact Nat.le_trans (eAt_le hk) (sAt_mono hk (Nat.le_refl _))
theorem dueLoop_succ (lim : Int) (f1 f2 E : Str) (sp : List (Nat × Nat)) {k : Nat} (hk : 1 ≤ k) : dueLoop lim f1 f2 E sp (k + 1) = dueStep lim f2 E sp (dueLoop lim f1 f2 E sp k) k := by
  unfold dueLoop
  have e : List.range' 1 (k + 1 - 1) = List.range' 1 (k - 1) ++ [k] := by
    have := List.range'_concat (s := 1) (n := k - 1) (step := 1)
    rw [show k + 1 - 1 = k - 1 + 1 by omega, this]
    congr 2
    omega
  rw [e, List.foldl_append]; rfl
theorem slice_end {l : List Pair} {b k : Nat} (hb : b ≤ k) (hk : k < l.length) : Txt.slice (spansOf l).1 (some ((spAt (spansOf l).2 b).1 : Int)) (some ((spAt (spansOf l).2 k).2 : Int)) = mk (sub (endl (paired l)) (sAt (paired l) b) (eAt (paired l) k)) := by
  have hk' : k < (paired l).length := by rw [paired_len]; exact hk
  rw [spAt_is (by omega), spAt_is hk]
  apply tl_inj
  have hE := (spans_is l).1
  rw [slice_nat _ (Nat.le_trans (sAt_mono hb (by omega)) (sAt_le_e _ k)) (by rw [← tl_len, hE]; exact eAt_end hk'), hE, tl_mk]
theorem rstrip_run {f : Str} {l : List Pair} (h : WsOk l) {b k : Nat} (hb : b ≤ k) (hk : k < l.length) : Txt.rstrip (f ++ mk (sub (endl (paired l)) (sAt (paired l) b) (sAt (paired l) (k + 1)))) = f ++ mk (sub (endl (paired l)) (sAt (paired l) b) (eAt (paired l) k)) := by
  have hk' : k < (paired l).length := by rw [paired_len]; exact hk
  have hw := (wAt_ok h hk).1
  have e : tl (f ++ mk (sub (endl (paired l)) (sAt (paired l) b) (sAt (paired l) (k + 1)))) = (tl f ++ sub (endl (paired l)) (sAt (paired l) b) (sAt (paired l) k)) ++ (tl (wAt (paired l) k).1 ++ bl (wAt (paired l) k).2) := by
    rw [tl_app, tl_mk, sub_run hb hk']; simp
  rw [rstrip_word e hw.1 hw.2 (by
    unfold bl
    intro c hc
    split at hc <;> simp at hc <;> rw [hc] <;> decide +kernel)]
  apply tl_inj
  rw [tl_mk, tl_app, tl_mk, sub_toE hb hk']; simp
theorem fill_core {lim : Int} {f1 f2 : Str} (head : List Str) {l : List Pair} (h : WsOk l) (hf : ∀ c ∈ tl f1, isBlank c = true) : ∀ k, 1 ≤ k → k ≤ l.length →
    ((paired l).take k).foldl (wordStep lim f1 f2) (head, f1) = (head ++ (dueLoop lim f1 f2 (spansOf l).1 (spansOf l).2 k).1, (dueLoop lim f1 f2 (spansOf l).1 (spansOf l).2 k).2.1 ++ mk (sub (endl (paired l)) (sAt (paired l) (dueLoop lim f1 f2 (spansOf l).1 (spansOf l).2 k).2.2) (sAt (paired l) k))) ∧
      (dueLoop lim f1 f2 (spansOf l).1 (spansOf l).2 k).2.2 < k
  | 0, h1, _ => absurd h1 (by omega)
  | 1, _, hk => by
    have hk' : 0 < (paired l).length := by rw [paired_len]; exact hk
    have e0 : dueLoop lim f1 f2 (spansOf l).1 (spansOf l).2 1 = ([], f1, 0) := rfl
    rw [e0]
    refine ⟨?_, Nat.one_pos⟩
    have et : (paired l).take 1 = [wAt (paired l) 0] := by
      rw [List.take_succ_eq_append_getElem hk', wAt_is hk']; rfl
    have hw := (wAt_ok h hk).1
    have hl : (wAt (paired l) 0).1.length ≠ 0 := by rw [← tl_len]; exact fun q => hw.2 (List.eq_nil_of_length_eq_zero q)
    rw [et, List.foldl_cons, List.foldl_nil, wordStep_eq hl, if_neg (fun q => q.2 rfl)]
    have := sub_run (ws := paired l) (Nat.le_refl 0) hk'
    rw [sub_self, List.nil_append] at this
    dsimp only
    rw [this, List.append_nil]
  | k + 2, _, hk => by
    obtain ⟨ih, hb⟩ := fill_core head h hf (k + 1) (by omega) (by omega)
    have hk' : k + 1 < (paired l).length := by rw [paired_len]; omega
    rw [dueLoop_succ _ _ _ _ _ (by omega)]
    generalize dueLoop lim f1 f2 (spansOf l).1 (spansOf l).2 (k + 1) = D at ih hb ⊢
    have et : (paired l).take (k + 2) = (paired l).take (k + 1) ++ [wAt (paired l) (k + 1)] := by
      rw [List.take_succ_eq_append_getElem hk', wAt_is hk']
    have hw := (wAt_ok h (show k + 1 < l.length by omega)).1
    have hl : (wAt (paired l) (k + 1)).1.length ≠ 0 := by rw [← tl_len]; exact fun q => hw.2 (List.eq_nil_of_length_eq_zero q)
    rw [et, List.foldl_append, ih, List.foldl_cons, List.foldl_nil, wordStep_eq hl]
    dsimp only
    have hne : D.2.1 ++ mk (sub (endl (paired l)) (sAt (paired l) D.2.2) (sAt (paired l) (k + 1))) ≠ f1 := by
      intro q
      have hbw := (wAt_ok h (show D.2.2 < l.length by omega)).1
      have hbl : D.2.2 < (paired l).length := by omega
      have e1 : sub (endl (paired l)) (sAt (paired l) D.2.2) (sAt (paired l) (k + 1)) = sub (endl (paired l)) (sAt (paired l) D.2.2) (eAt (paired l) D.2.2) ++ sub (endl (paired l)) (eAt (paired l) D.2.2) (sAt (paired l) (k + 1)) :=
        (sub_app _ (sAt_le_e _ _) (Nat.le_trans (eAt_le hbl) (sAt_mono hb (by omega)))).symm
      rw [sub_word hbl] at e1
      cases hc : tl (wAt (paired l) D.2.2).1 with
      | nil => exact hbw.2 hc
      | cons c r =>
        have hm : c ∈ tl f1 := by
          rw [← q, tl_app, tl_mk, e1, hc]; simp
        have h1 := hf c hm
        have h2 := hbw.1 c (by rw [hc]; exact List.mem_cons_self ..)
        unfold isBlank at h1
        simp only [Bool.or_eq_true, beq_iff_eq] at h1
        rcases h1 with rfl | rfl
        · exact absurd h2 (by decide +kernel)
        · exact absurd h2 (by decide +kernel)
    have hex : ((expand (D.2.1 ++ mk (sub (endl (paired l)) (sAt (paired l) D.2.2) (sAt (paired l) (k + 1))) ++ (wAt (paired l) (k + 1)).1)).length : Int) = ((expand D.2.1).length : Int) + ((spAt (spansOf l).2 (k + 1)).2 : Int) - ((spAt (spansOf l).2 D.2.2).1 : Int) := by
      have e : D.2.1 ++ mk (sub (endl (paired l)) (sAt (paired l) D.2.2) (sAt (paired l) (k + 1))) ++ (wAt (paired l) (k + 1)).1 = D.2.1 ++ mk (sub (endl (paired l)) (sAt (paired l) D.2.2) (eAt (paired l) (k + 1))) := by
        apply tl_inj
        rw [tl_app, tl_app, tl_mk, tl_app, tl_mk, sub_toE (by omega) hk']; simp
      rw [e, expand_len (fun q => endl_noTab h (sub_mem q)), sub_len (eAt_end hk'), spAt_is (by omega), spAt_is (by omega)]
      have h1 := sAt_le_e (paired l) (k + 1)
      have h2 := sAt_mono (ws := paired l) (show D.2.2 ≤ k + 1 by omega) (by omega)
      omega
    unfold dueStep
    rw [hex]
    by_cases hc : ((expand D.2.1).length : Int) + ((spAt (spansOf l).2 (k + 1)).2 : Int) - ((spAt (spansOf l).2 D.2.2).1 : Int) > lim
    · rw [if_pos ⟨hc, hne⟩, if_pos hc]
      dsimp only
      rw [show k + 1 - 1 = k by omega, rstrip_run h (by omega) (by omega), slice_end (by omega) (by omega)]
      have e2 := sub_run (ws := paired l) (Nat.le_refl (k + 1)) hk'
      rw [sub_self, List.nil_append] at e2
      rw [e2, List.append_assoc]
      exact ⟨rfl, Nat.lt_succ_self _⟩
    · rw [if_neg (fun q => hc q.1), if_neg hc]
      refine ⟨?_, by omega⟩
      rw [sub_run (by omega) hk']
      congr 1
      apply tl_inj
      rw [tl_app, tl_app, tl_app, tl_mk, tl_mk, tl_mk, List.append_assoc]
/-- the whole run set anew -/
theorem fill_run {lim : Int} {f1 f2 : Str} (head : List Str) {l : List Pair} (h : WsOk l) (hf : ∀ c ∈ tl f1, isBlank c = true) (hn : l ≠ []) :
    ((paired l).foldl (wordStep lim f1 f2) (head, f1)).1 ++ [Txt.rstrip ((paired l).foldl (wordStep lim f1 f2) (head, f1)).2] = head ++ dueOf lim f1 f2 l := by
  have h1 : 1 ≤ l.length := List.length_pos_iff.mpr hn
  obtain ⟨e, hb⟩ := fill_core (lim := lim) (f2 := f2) head h hf l.length h1 (Nat.le_refl _)
  rw [← paired_len, List.take_length, paired_len] at e
  have hsl : (spansOf l).2.length = l.length := by rw [(spans_is l).2]; simp
  unfold dueOf
  dsimp only
  rw [hsl, e]
  dsimp only
  obtain ⟨k, hk⟩ : ∃ k, l.length = k + 1 := ⟨l.length - 1, by omega⟩
  rw [hk] at hb ⊢
  rw [show k + 1 - 1 = k by omega, rstrip_run h (by omega) (by omega), slice_end (by omega) (by omega), List.append_assoc]
end
section
/-! the plain law -/
theorem takeWhile_mapC {α β : Type} {f : α → β} {p : β → Bool} {q : α → Bool} : ∀ (l : List α), (∀ a ∈ l, p (f a) = q a) → (l.map f).takeWhile p = (l.takeWhile q).map f
  | [], _ => rfl
  | a :: l, h => by
    rw [List.map_cons, List.takeWhile_cons, List.takeWhile_cons, h a (List.mem_cons_self ..)]
    split
    · rw [takeWhile_mapC l fun b hb => h b (List.mem_cons_of_mem _ hb)]; rfl
    · rfl
theorem mem_tw {α : Type} {p : α → Bool} {x : α} : ∀ {l : List α}, x ∈ l.takeWhile p → p x = true
  | a :: l, h => by
    rw [List.takeWhile_cons] at h
    split at h
    · rename_i ha
      rcases List.mem_cons.mp h with rfl | h
      · exact ha
      · exact mem_tw h
    · cases h
theorem take_takeWhile {α : Type} {p : α → Bool} : ∀ l : List α, l.take (l.takeWhile p).length = l.takeWhile p
  | [] => rfl
  | a :: l => by
    rw [List.takeWhile_cons]
    split
    · rw [List.length_cons, List.take_succ_cons, take_takeWhile l]
    · rfl
theorem takeWhile_stop' {α : Type} {p : α → Bool} {b : List α} (hb : ∀ x r, b = x :: r → p x = false) : ∀ a : List α, (a ++ b).takeWhile p = a.takeWhile p
  | [] => takeWhile_stop b hb
  | x :: a => by rw [List.cons_append, List.takeWhile_cons, List.takeWhile_cons, takeWhile_stop' hb a]
theorem indent_tl (x : Str) : tl (indent x) = (tl x).takeWhile isBlank := by
  have e : indentLen x = ((tl x).takeWhile isBlank).length := by
    unfold indentLen
    rw [spanAt_eq _ _ _ _ (by omega), List.drop_zero, List.take_of_length_le (by simp)]; rfl
  unfold indent
  show (x.cps.extract 0 (indentLen x)).toList = _
  rw [Array.toList_extract, List.extract_eq_take_drop, e]
  show ((tl x).drop 0).take _ = _
  rw [List.drop_zero, Nat.sub_zero, take_takeWhile]
theorem space_not_blank {c : Nat} (h : Unicode.isSpace c = false) : isBlank c = false := by
  unfold isBlank
  rw [Bool.or_eq_false_iff, beq_eq_false_iff_ne, beq_eq_false_iff_ne]
  refine ⟨?_, ?_⟩ <;> rintro rfl
  · exact absurd h (by decide +kernel)
  · exact absurd h (by decide +kernel)
theorem indent_row {r : PRow} (h : LRow r) : indent (rowText r) = frontOf r.1 := by
  apply tl_inj
  rw [indent_tl, h.front]
  unfold rowText
  rw [tl_app]
  exact takeWhile_stop' (fun x r' e => space_not_blank (h.ok.pairs.hd x r' e)) _
theorem front_blank {r : PRow} (h : LRow r) : ∀ c ∈ tl (frontOf r.1), isBlank c = true := by
  intro c hc
  rw [h.front] at hc
  exact mem_tw hc
theorem no10_pairs : ∀ {l : List Pair}, PairsOk l → 10 ∉ tl (pairText l)
  | [], _ => by intro h; cases h
  | p :: l, h => by
    rw [pairText_cons]
    intro hm
    rcases List.mem_append.mp hm with q | q
    · have := h.word.1 10 q
      exact absurd this (by decide +kernel)
    rcases List.mem_append.mp q with z | z
    rotate_left
    · exact no10_pairs h.tail z
    clear q hm
    · cases l with
      | nil =>
        rcases h.2 with hg | hg
        · exact hg.2.2 z
        · rw [hg] at z; cases z
      | cons a b => exact h.2.1.2.2 z
theorem no10_row {r : PRow} (h : LRow r) : 10 ∉ tl (rowText r) := by
  unfold rowText
  rw [tl_app]
  intro hm
  rcases List.mem_append.mp hm with q | q
  · exact h.ok.lead.2 q
  · exact no10_pairs h.ok.pairs q
section
variable {rows : List PRow} (hok : ∀ r ∈ rows, LRow r) (hne : rows ≠ [])
include hok
theorem whites_rows : whites (rows.map rowText) = bareRows rows := by
  unfold whites bareRows
  rw [takeWhile_mapC (q := fun r : PRow => r.2.isEmpty) rows (fun r hr => white_row (hok r hr).ok), List.length_map]
theorem runOf_rows : runOf (rows.map rowText) = (runRows rows).map rowText := by
  unfold runOf runRows
  rw [whites_rows hok, ← List.map_drop]
  exact takeWhile_mapC _ fun r hr => by rw [white_row (hok r (List.mem_of_mem_drop hr)).ok]
omit hok in
theorem run_mem : ∀ r ∈ runRows rows, r ∈ rows ∧ r.2 ≠ [] := by
  intro r hr
  unfold runRows at hr
  have h1 := mem_tw hr
  have h2 : r ∈ rows.drop (bareRows rows) := (List.takeWhile_prefix _).subset hr
  exact ⟨List.mem_of_mem_drop h2, by intro e; rw [e] at h1; simp at h1⟩
theorem run_ws : WsOk ((runRows rows).flatMap (·.2)) := by
  intro p hp
  obtain ⟨r, hr, hp⟩ := List.mem_flatMap.mp hp
  have hL := hok r (run_mem r hr).1
  refine ⟨?_, hL.noTab p hp⟩
  have : ∀ (l : List Pair), PairsOk l → ∀ q ∈ l, isWord q.1 := by
    intro l
    induction l with
    | nil => intro _ q hq; cases hq
    | cons a b ih =>
      intro h q hq
      rcases List.mem_cons.mp hq with rfl | hq
      · exact h.word
      · exact ih h.tail q hq
  exact this r.2 hL.ok.pairs p hp
include hne
theorem split_rows : Txt.split (Txt.join nl (rows.map rowText)) nl = rows.map rowText := by
  refine split_join (fun e => hne (List.map_eq_nil_iff.mp e)) fun x hx => ?_
  obtain ⟨r, hr, rfl⟩ := List.mem_map.mp hx
  exact no10_row (hok r hr)
theorem para_filled (lim : Int) : para (Txt.join nl (rows.map rowText)) lim = Txt.join nl (filled rows (rows.map rowText) lim) := by
  unfold para
  rw [split_rows hok hne]
  have hr := runOf_rows hok
  have hw := whites_rows hok
  unfold filled
  cases e : runRows rows with
  | nil =>
    rw [e] at hr
    dsimp only
    split
    · unfold paraLines
      rw [hr]; rfl
    · rfl
  | cons r rs =>
    have hmem : ∀ z ∈ r :: rs, LRow z ∧ z.2 ≠ [] := by
      intro z hz
      have := run_mem z (by rw [e]; exact hz)
      exact ⟨hok z this.1, this.2⟩
    have hr0 := hmem r (List.mem_cons_self ..)
    have hlt : whites (rows.map rowText) < (rows.map rowText).length := by
      rw [hw, List.length_map]
      rcases Nat.lt_or_ge (bareRows rows) rows.length with q | q
      · exact q
      · exfalso
        unfold runRows at e
        rw [List.drop_eq_nil_of_le q] at e
        cases e
    rw [if_pos hlt]
    dsimp only
    congr 1
    unfold paraLines
    rw [hr, e, hw]
    show (((r :: rs).map rowText).foldl (lineStep lim (indent (rowText r)) (ind2 (indent (rowText r)) (rs.map rowText))) ((rows.map rowText).take (bareRows rows), indent (rowText r))).1 ++
        [Txt.rstrip (((r :: rs).map rowText).foldl (lineStep lim (indent (rowText r)) (ind2 (indent (rowText r)) (rs.map rowText))) ((rows.map rowText).take (bareRows rows), indent (rowText r))).2] ++
        (rows.map rowText).drop (bareRows rows + ((r :: rs).map rowText).length) = _
    have hi2 : ind2 (indent (rowText r)) (rs.map rowText) = front2 (frontOf r.1) rs := by
      cases rs with
      | nil => exact indent_row hr0.1
      | cons z q => exact indent_row (hmem z (List.mem_cons_of_mem _ (List.mem_cons_self ..))).1
    rw [hi2, indent_row hr0.1, run_fold (r :: rs) _ fun z hz => ⟨(hmem z hz).1.ok, (hmem z hz).2⟩]
    have hws := run_ws hok
    rw [e] at hws
    rw [fill_run _ hws (front_blank hr0.1) (by
      rw [List.flatMap_cons]
      intro q
      exact hr0.2 (List.append_eq_nil_iff.mp q).1), List.length_map]
end
end
section
/-! the law's second half, and how long its texts are -/
theorem slice_mem {x : Str} {l u : Option Int} {c : Nat} (h : c ∈ tl (Txt.slice x l u)) : c ∈ tl x := by
  unfold Txt.slice at h
  split at h
  · exact h
  · have h' : c ∈ (List.filterMap (fun i => x.cps[i]?) (Builtin.Str.strSliceIndices l u 1 x.length)) := by
      have e : tl ⟨((Builtin.Str.strSliceIndices l u 1 x.length).filterMap (x.cps[·]?)).toArray⟩ = (Builtin.Str.strSliceIndices l u 1 x.length).filterMap (x.cps[·]?) := tl_mk _
      rw [e] at h; exact h
    obtain ⟨i, _, hi⟩ := List.mem_filterMap.mp h'
    have : c ∈ x.cps := Array.mem_of_getElem? hi
    exact Array.mem_toList_iff.mpr this
theorem slice_from {a t : Str} : Txt.slice (a ++ t) (some (a.length : Int)) none = t := by
  apply tl_inj
  have e : Txt.slice (a ++ t) (some (a.length : Int)) none = StrLaws.sliceText (a ++ t) (some (a.length : Int)) none := rfl
  have hl : (a ++ t).cps.toList = tl a ++ tl t := tl_app a t
  rw [e, StrLaws.sliceText_from ⟨Int.natCast_nonneg _, by rw [hl, List.length_append, tl_len, tl_len]; omega⟩, hl]
  show tl (mk _) = _
  rw [tl_mk, List.length_append, tl_len, tl_len, Int.toNat_natCast, show ((((a.length + t.length : Nat) : Int)) - (a.length : Int)).toNat = t.length by omega, ← tl_len a, List.drop_left, ← tl_len t, List.take_length]
theorem slice_to {t z : Str} : Txt.slice (t ++ z) none (some (t.length : Int)) = t := by
  apply tl_inj
  have e : Txt.slice (t ++ z) none (some (t.length : Int)) = StrLaws.sliceText (t ++ z) none (some (t.length : Int)) := rfl
  have hl : (t ++ z).cps.toList = tl t ++ tl z := tl_app t z
  rw [e, StrLaws.sliceText_to ⟨Int.natCast_nonneg _, by rw [hl, List.length_append, tl_len, tl_len]; omega⟩, hl]
  show tl (mk _) = _
  rw [tl_mk, List.drop_zero, show ((t.length : Int) - 0).toNat = t.length by omega, ← tl_len t, List.take_left]
theorem str_nil {x : Str} (h : x.length = 0) : x = Str.ofString "" := tl_inj (List.eq_nil_of_length_eq_zero (by rw [tl_len]; exact h))
/-- what holds of every new row holds of the due -/
theorem dueLoop_all {Pr : Str → Prop} {lim : Int} {f1 f2 E : Str} {sp : List (Nat × Nat)} (h : ∀ f, f = f1 ∨ f = f2 → ∀ a b : Nat, Pr (f ++ Txt.slice E (some (a : Int)) (some (b : Int)))) : ∀ k,
    (∀ x ∈ (dueLoop lim f1 f2 E sp k).1, Pr x) ∧ ((dueLoop lim f1 f2 E sp k).2.1 = f1 ∨ (dueLoop lim f1 f2 E sp k).2.1 = f2) ∧ (dueLoop lim f1 f2 E sp k).1.length ≤ k - 1
  | 0 => ⟨fun _ hx => (nomatch hx), .inl rfl, Nat.le_refl _⟩
  | 1 => ⟨fun _ hx => (nomatch hx), .inl rfl, Nat.le_refl _⟩
  | k + 2 => by
    obtain ⟨i1, i2, i3⟩ := dueLoop_all (lim := lim) (sp := sp) h (k + 1)
    rw [dueLoop_succ _ _ _ _ _ (by omega)]
    unfold dueStep
    split
    · refine ⟨fun x hx => ?_, .inr rfl, ?_⟩
      · rcases List.mem_append.mp hx with q | q
        · exact i1 x q
        · rw [List.mem_singleton.mp q]; exact h _ i2 _ _
      · dsimp only
        rw [List.length_append, List.length_singleton]; omega
    · exact ⟨i1, i2, by omega⟩
theorem due_all {Pr : Str → Prop} {lim : Int} {f1 f2 : Str} {l : List Pair} (h : ∀ f, f = f1 ∨ f = f2 → ∀ a b : Nat, Pr (f ++ Txt.slice (spansOf l).1 (some (a : Int)) (some (b : Int)))) :
    (∀ x ∈ dueOf lim f1 f2 l, Pr x) ∧ (dueOf lim f1 f2 l).length ≤ l.length + 1 ∧ dueOf lim f1 f2 l ≠ [] := by
  have hsl : (spansOf l).2.length = l.length := by rw [(spans_is l).2]; simp
  obtain ⟨i1, i2, i3⟩ := dueLoop_all (lim := lim) (sp := (spansOf l).2) h (spansOf l).2.length
  unfold dueOf
  dsimp only
  refine ⟨fun x hx => ?_, ?_, by simp⟩
  · rcases List.mem_append.mp hx with q | q
    · exact i1 x q
    · rw [List.mem_singleton.mp q]; exact h _ i2 _ _
  · rw [List.length_append, List.length_singleton]; omega
theorem endl_len : ∀ l : List Pair, (∀ p ∈ l, (tl p.1).length ≤ 10) → (endl (paired l)).length ≤ 12 * l.length
  | [], _ => Nat.le_refl _
  | p :: l, h => by
    have ih := endl_len l fun q hq => h q (List.mem_cons_of_mem _ hq)
    have hp := h p (List.mem_cons_self ..)
    have e : endl (paired (p :: l)) = (tl p.1 ++ bl (twoOf p.2)) ++ endl (paired l) := rfl
    have hb : (bl (twoOf p.2)).length ≤ 2 := by unfold bl; split <;> simp
    rw [e, List.length_append, List.length_append, List.length_cons]; omega
theorem no10_endl {l : List Pair} (h : WsOk l) : 10 ∉ endl (paired l) := by
  unfold endl paired
  intro hm
  obtain ⟨w, hw, hc⟩ := List.mem_flatMap.mp hm
  obtain ⟨p, hp, rfl⟩ := List.mem_map.mp hw
  rcases List.mem_append.mp hc with q | q
  · exact absurd ((h p hp).1.1 10 q) (by decide +kernel)
  · unfold bl at q
    dsimp only at q
    split at q <;> simp at q
section
variable {rows : List PRow} (hok : ∀ r ∈ rows, LRow r)
include hok
theorem run_fronts {r : PRow} {rs : List PRow} (e : runRows rows = r :: rs) : ∀ f, f = frontOf r.1 ∨ f = front2 (frontOf r.1) rs → ∃ z ∈ rows, f = frontOf z.1 := by
  intro f hf
  have h1 : r ∈ rows := (run_mem r (by rw [e]; exact List.mem_cons_self ..)).1
  rcases hf with rfl | rfl
  · exact ⟨r, h1, rfl⟩
  · cases rs with
    | nil => exact ⟨r, h1, rfl⟩
    | cons z q => exact ⟨z, (run_mem z (by rw [e]; exact List.mem_cons_of_mem _ (List.mem_cons_self ..))).1, rfl⟩
theorem filled_no10 (lim : Int) : ∀ x ∈ filled rows (rows.map rowText) lim, 10 ∉ tl x := by
  have ht : ∀ x ∈ rows.map rowText, 10 ∉ tl x := fun x hx => by
    obtain ⟨r, hr, rfl⟩ := List.mem_map.mp hx
    exact no10_row (hok r hr)
  intro x hx
  unfold filled at hx
  cases e : runRows rows with
  | nil => rw [e] at hx; exact ht x hx
  | cons r rs =>
    rw [e] at hx
    dsimp only at hx
    have hws := run_ws hok
    rw [e] at hws
    rcases List.mem_append.mp hx with hx | hx
    · rcases List.mem_append.mp hx with hx | hx
      · exact ht x (List.mem_of_mem_take hx)
      · refine (due_all (Pr := fun x => 10 ∉ tl x) (fun f hf a b => ?_)).1 x hx
        rw [tl_app]
        intro hm
        rcases List.mem_append.mp hm with q | q
        · obtain ⟨z, hz, rfl⟩ := run_fronts hok e f hf
          exact absurd (front_blank (hok z hz) 10 q) (by decide)
        · have := slice_mem q
          rw [(spans_is _).1] at this
          exact no10_endl hws this
    · exact ht x (List.mem_of_mem_drop hx)
theorem pairs_small : ∀ p ∈ rows.flatMap (·.2), (tl p.1).length ≤ 10 := by
  intro p hp
  obtain ⟨r, hr, hp⟩ := List.mem_flatMap.mp hp
  have := (hok r hr).small p hp
  omega
theorem text_len : ∀ r ∈ rows, (rowText r).length ≤ 2 + 10 * r.2.length := by
  intro r hr
  have h := hok r hr
  have : ∀ l : List Pair, (∀ p ∈ l, (tl p.1).length + (tl p.2).length ≤ 10) → (tl (pairText l)).length ≤ 10 * l.length := by
    intro l
    induction l with
    | nil => intro _; exact Nat.le_refl _
    | cons p l ih =>
      intro hl
      have h1 := ih fun q hq => hl q (List.mem_cons_of_mem _ hq)
      have h2 := hl p (List.mem_cons_self ..)
      rw [pairText_cons, List.length_append, List.length_append, List.length_cons]; omega
  have h2 := this r.2 h.small
  have h3 := h.short
  unfold rowText
  rw [← tl_len, tl_app, List.length_append]; omega
theorem texts_lens {f : PRow → Str} {c : Nat} (hf : ∀ r ∈ rows, (f r).length ≤ c + (rowText r).length) : lens (rows.map f) + rows.length ≤ (c + 10) * tally rows := by
  induction rows with
  | nil => exact Nat.le_refl _
  | cons r rs ih =>
    have h1 := ih (fun z hz => hok z (List.mem_cons_of_mem _ hz)) fun z hz => hf z (List.mem_cons_of_mem _ hz)
    have h2 := text_len hok r (List.mem_cons_self ..)
    have h3 := hf r (List.mem_cons_self ..)
    have e : tally (r :: rs) = (r.2.length + 1) + tally rs := by unfold tally; rw [List.map_cons, List.sum_cons]
    rw [List.map_cons, lens_cons, List.length_cons, e, Nat.mul_add, Nat.mul_add, Nat.mul_one]
    have h4 : 10 * r.2.length ≤ (c + 10) * r.2.length := Nat.mul_le_mul_right _ (by omega)
    omega
omit hok in
theorem tally_run : (runRows rows).flatMap (·.2) = [] ∨ ((runRows rows).flatMap (·.2)).length ≤ tally rows := by
  right
  have h1 : ∀ l : List PRow, (l.flatMap (·.2)).length ≤ tally l := by
    intro l
    induction l with
    | nil => exact Nat.le_refl _
    | cons r rs ih =>
      have e : tally (r :: rs) = (r.2.length + 1) + tally rs := by unfold tally; rw [List.map_cons, List.sum_cons]
      rw [List.flatMap_cons, List.length_append, e]; omega
  have h2 : ∀ (l : List PRow) (n : Nat), tally (l.drop n) ≤ tally l := by
    intro l
    induction l with
    | nil => intro n; cases n <;> exact Nat.le_refl _
    | cons r rs ih =>
      intro n
      cases n with
      | zero => exact Nat.le_refl _
      | succ n =>
        have e : tally (r :: rs) = (r.2.length + 1) + tally rs := by unfold tally; rw [List.map_cons, List.sum_cons]
        have := ih n
        rw [List.drop_succ_cons, e]; omega
  have h3 : ∀ (l : List PRow) (p : PRow → Bool), tally (l.takeWhile p) ≤ tally l := by
    intro l p
    induction l with
    | nil => exact Nat.le_refl _
    | cons r rs ih =>
      have e : tally (r :: rs) = (r.2.length + 1) + tally rs := by unfold tally; rw [List.map_cons, List.sum_cons]
      rw [List.takeWhile_cons]
      split
      · have e2 : tally (r :: rs.takeWhile p) = (r.2.length + 1) + tally (rs.takeWhile p) := by unfold tally; rw [List.map_cons, List.sum_cons]
        rw [e, e2]; omega
      · exact Nat.zero_le _
  unfold runRows
  exact Nat.le_trans (h1 _) (Nat.le_trans (h3 _ _) (h2 _ _))
omit hok in
theorem lens_all {n : Nat} : ∀ l : List Str, (∀ x ∈ l, x.length ≤ n) → lens l ≤ n * l.length
  | [], _ => Nat.zero_le _
  | a :: r, h => by
    rw [lens_cons, List.length_cons, Nat.mul_succ]
    have h1 := h a (List.mem_cons_self ..)
    have h2 := lens_all r fun z hz => h z (List.mem_cons_of_mem _ hz)
    omega
theorem filled_lens (lim : Int) (ht : tally rows ≤ 25) : lens (filled rows (rows.map rowText) lim) + (filled rows (rows.map rowText) lim).length ≤ 20000 := by
  have h0 := texts_lens (f := rowText) (c := 0) hok (fun r _ => by omega)
  have hlen : (rows.map rowText).length = rows.length := List.length_map _
  unfold filled
  cases e : runRows rows with
  | nil => dsimp only; omega
  | cons r rs =>
    dsimp only
    rw [← e]
    have hlr : ((runRows rows).flatMap (·.2)).length ≤ 25 := by
      rcases tally_run (rows := rows) with q | q
      · rw [q]; exact Nat.zero_le _
      · omega
    have hE : (endl (paired ((runRows rows).flatMap (·.2)))).length ≤ 300 := by
      have := endl_len ((runRows rows).flatMap (·.2)) (fun p hp => by
        obtain ⟨z, hz, hp⟩ := List.mem_flatMap.mp hp
        exact pairs_small hok p (List.mem_flatMap.mpr ⟨z, (run_mem z hz).1, hp⟩))
      omega
    obtain ⟨d1, d2, d3⟩ := due_all (Pr := fun x => x.length ≤ 302) (lim := lim) (f1 := frontOf r.1) (f2 := front2 (frontOf r.1) rs) (l := (runRows rows).flatMap (·.2)) (fun f hf a b => by
      obtain ⟨z, hz, rfl⟩ := run_fronts hok e f hf
      have h1 : (frontOf z.1).length ≤ 2 := by
        rw [← tl_len, (hok z hz).front]
        exact Nat.le_trans (List.takeWhile_prefix _).length_le (hok z hz).short
      have h2 : (Txt.slice (spansOf ((runRows rows).flatMap (·.2))).1 (some (a : Int)) (some (b : Int))).length ≤ 300 := by
        refine Nat.le_trans (PyProof.Txt.length_slice_le _ _ _) ?_
        rw [← tl_len, (spans_is _).1]; exact hE
      rw [str_append_len]; omega)
    have h5 := lens_all _ d1
    have h6 := lens_take (rows.map rowText) (bareRows rows)
    have h7 := lens_drop (rows.map rowText) (bareRows rows + (runRows rows).length)
    have h8 : ((rows.map rowText).take (bareRows rows)).length ≤ rows.length := by rw [List.length_take]; omega
    have h9 : ((rows.map rowText).drop (bareRows rows + (runRows rows).length)).length ≤ rows.length := by rw [List.length_drop]; omega
    rw [lens_append, lens_append, List.length_append, List.length_append]
    omega
end
end
section
/-! reformat_comment against what the law says it gives -/
def aheadRow (a t : Str) : Str := if t.length = 0 then Str.ofString "" else a ++ t
def told0 (y : Str) (F : List Str) : Str := Txt.join (Str.ofString "\n") (F.map fun z => y ++ z)
def toldOf (y : Str) (F : List Str) : Str :=
  if F = [Str.ofString ""] then Str.ofString "\n" else if endsEmpty F then Txt.slice (told0 y F) none (some (((told0 y F).length : Int) - (y.length : Int))) else told0 y F
theorem filled_ne {rows : List PRow} (hne : rows ≠ []) (lim : Int) : filled rows (rows.map rowText) lim ≠ [] := by
  unfold filled
  cases e : runRows rows with
  | nil => exact fun q => hne (List.map_eq_nil_iff.mp q)
  | cons r rs =>
    dsimp only
    intro q
    exact (due_all (Pr := fun _ => True) (fun _ _ _ _ => trivial)).2.2 (List.append_eq_nil_iff.mp (List.append_eq_nil_iff.mp q).1).2
theorem join_snoc : ∀ (l : List Str) (z : Str), l ≠ [] → Txt.join nl (l ++ [z]) = Txt.join nl l ++ nl ++ z
  | [], _, h => absurd rfl h
  | [a], z, _ => by rw [join_nl, join_nl]; rfl
  | a :: b :: r, z, _ => by
    have ih := join_snoc (b :: r) z (List.cons_ne_nil _ _)
    rw [join_nl, join_nl] at ih ⊢
    show a ++ nl ++ Str.join nl (b :: r ++ [z]) = a ++ nl ++ Str.join nl (b :: r) ++ nl ++ z
    rw [ih]
    simp only [app_assoc]
theorem told_end {y : Str} {F : List Str} (hF : F ≠ []) : Txt.join (Str.ofString "\n") ((cutLast F).map fun z => y ++ z) ++ sfx F = toldOf y F := by
  rcases List.eq_nil_or_concat F with e | ⟨l, z, e⟩
  · exact absurd e hF
  rw [List.concat_eq_append] at e
  subst e
  unfold toldOf
  rw [cutLast_snoc, sfx_snoc, endsEmpty_snoc]
  by_cases hz : z.length = 0
  · rw [if_pos hz, if_pos hz, str_nil hz]
    have eb : ((Str.ofString "").length == 0) = true := rfl
    rw [eb]
    cases l with
    | nil => rw [List.nil_append, if_pos rfl]; rfl
    | cons a r =>
      rw [if_neg (by simp), if_pos rfl]
      have ht : told0 y (a :: r ++ [Str.ofString ""]) = (Txt.join (Str.ofString "\n") ((a :: r).map fun z => y ++ z) ++ nl) ++ y := by
        unfold told0
        rw [List.map_append, List.map_singleton]
        have := join_snoc ((a :: r).map fun z => y ++ z) (y ++ Str.ofString "") (by simp)
        have e2 : y ++ Str.ofString "" = y := tl_inj (by rw [tl_app]; show tl y ++ [] = _; rw [List.append_nil])
        rw [e2] at this ⊢
        exact this
      rw [ht]
      have hl : (((Txt.join (Str.ofString "\n") ((a :: r).map fun z => y ++ z) ++ nl) ++ y).length : Int) - (y.length : Int) = ((Txt.join (Str.ofString "\n") ((a :: r).map fun z => y ++ z) ++ nl).length : Int) := by
        rw [str_append_len]; omega
      rw [hl, slice_to]
  · rw [if_neg hz, if_neg hz]
    have eb : (z.length == 0) = false := by simpa using hz
    have hn : l ++ [z] ≠ [Str.ofString ""] := by
      intro q
      cases l with
      | nil =>
        have := List.singleton_inj.mp q
        rw [this] at hz; exact hz rfl
      | cons a r => simp at q
    rw [eb, if_neg hn, if_neg (by simp)]
    show told0 y (l ++ [z]) ++ Str.ofString "" = told0 y (l ++ [z])
    exact tl_inj (by rw [tl_app]; show tl _ ++ [] = _; rw [List.append_nil])
section
variable {rows : List PRow} (hok : ∀ r ∈ rows, LRow r) (hne : rows ≠ [])
include hok hne
theorem stripped_rows {a y : Str} (hl : a.length = y.length) (h10 : 10 ∉ tl a) : stripped (Txt.join nl (rows.map fun r => aheadRow a (rowText r))) y = Txt.join nl (rows.map rowText) := by
  unfold stripped
  have hs : Txt.split (Txt.join nl (rows.map fun r => aheadRow a (rowText r))) nl = rows.map fun r => aheadRow a (rowText r) := by
    refine split_join (fun e => hne (List.map_eq_nil_iff.mp e)) fun x hx => ?_
    obtain ⟨r, hr, rfl⟩ := List.mem_map.mp hx
    unfold aheadRow
    split
    · intro q; cases q
    · rw [tl_app]
      intro q
      rcases List.mem_append.mp q with q | q
      · exact h10 q
      · exact no10_row (hok r hr) q
  have hs' : Txt.split (Txt.join nl (rows.map fun r => aheadRow a (rowText r))) (Str.ofString "\n") = rows.map fun r => aheadRow a (rowText r) := hs
  rw [hs', List.map_map]
  show Txt.join nl _ = _
  congr 1
  refine List.map_congr_left fun r _ => ?_
  show Txt.slice (aheadRow a (rowText r)) (some (y.length : Int)) none = rowText r
  unfold aheadRow
  split
  · rename_i h
    rw [str_nil h]
    refine str_nil ?_
    have := PyProof.Txt.length_slice_le (Str.ofString "") (some (y.length : Int)) none
    have e : (Str.ofString "").length = 0 := rfl
    omega
  · rw [← hl, slice_from]
theorem comment_told {a y : Str} (hl : a.length = y.length) (h10 : 10 ∉ tl a) (lim : Int) :
    comment (Txt.join nl (rows.map fun r => aheadRow a (rowText r))) y lim = toldOf y (filled rows (rows.map rowText) (if (20 : Int) > lim - (y.length : Int) then 20 else lim - (y.length : Int))) := by
  have e : setLines (Txt.join nl (rows.map fun r => aheadRow a (rowText r))) y lim = filled rows (rows.map rowText) (if (20 : Int) > lim - (y.length : Int) then 20 else lim - (y.length : Int)) := by
    unfold setLines
    rw [stripped_rows hok hne hl h10, para_filled hok hne]
    exact split_join (filled_ne hne _) (filled_no10 hok _)
  unfold comment
  rw [e]
  exact told_end (filled_ne hne _)
end
end
section
theorem intsAre_get {vs : List Value} {ns : List Int} (h : IntsAre vs ns) {i : Nat} (hi : i < ns.length) : ∃ t, vs[i]? = some (.int (ns.getD i 0) t) := by
  have hl : i < vs.length := by rw [h.length]; exact hi
  obtain ⟨t, e⟩ := h.int_at i vs[i] (List.getElem?_eq_getElem hl)
  exact ⟨t, by rw [List.getElem?_eq_getElem hl, e]⟩
theorem intsAre_set : ∀ {vs : List Value} {ns : List Int}, IntsAre vs ns → ∀ (i : Nat) (x : Int) (t : Tok), IntsAre (vs.set i (.int x t)) (ns.set i x)
  | _, _, .nil, _, _, _ => .nil
  | _, _, .cons _ _ h, 0, x, t => .cons x t h
  | _, _, .cons n u h, i + 1, x, t => .cons n u (intsAre_set h i x t)
theorem size_one (a n : Nat) : Builtin.Range.rangeSize (a : Int) (n : Int) 1 = ((n - a : Nat) : Int) := by
  unfold Builtin.Range.rangeSize
  rw [if_pos (by decide)]
  split <;> omega
theorem small_one {a n : Nat} (ha : a ≤ 16777216) (h : n ≤ 16777216) : Builtin.Range.small (a : Int) (n : Int) 1 = true := by
  unfold Builtin.Range.small
  rw [size_one, fits_of (by omega) (by omega), fits_of (by omega) (by omega), fits_of (by omega) (by omega), fits_of (by omega) (by omega), if_pos (by decide), fits_of (by omega) (by omega), Bool.or_true]
  rfl
section
variable {prog : Program} {w : World} {A : Around} {E : Value → Shared → Prop} {s : Shared} {h₀ : Heap} {L : Addr} {m : Str → Option Value} {news news' : List (Addr × Obj)}
theorem w_uptoB {value slice : Expr} {l : Addr} {vs : List Value} {i : Nat} {ti : Tok} {Q : Value → Shared → Prop} {h : Heap} {ge : _} {dr : _} {tk : Nat} {os : _} (F : Fr h₀ L h m) (N : News h₀ L h news) (hl : h₀.IsList l vs.toArray) (hb : vs.length ≤ 16777216)
    (k : ∀ D h', Fr h₀ L h' m → News h₀ L h' ((D, lst (vs.take i)) :: news) → Below D news → Q (.ref D) ⟨h', ge, dr, tk, os⟩)
    (hs : subscripted slice false (.ref l) (.ref h.objs.size) = operate [.ref h.objs.size, .ref l] (getItem (.ref l) (.ref h.objs.size)) := by with_unfolding_all rfl)
    (ht : ∀ r, letTemporaryGo value (.ref l) r = pure () := by intro _; with_unfolding_all rfl) :
    wpAny (model prog w) A (subscriptTail value slice (.ref l) (.ref h.objs.size)) Q E ⟨h.push { cls := .type "slice", data := .fields #[.none, .int (i : Int) ti, .none] }, ge, dr, tk, os⟩ := by
  refine slice_list (s := ⟨h, ge, dr, tk, os⟩) F N (by obtain ⟨o, e, r⟩ := hl; exact ⟨o, F.keep _ _ e, r⟩) .none (.int _ _) (fun h' F' N' => ?_) hs ht (by rw [sizeLine_eq]; simpa using hb)
  rw [slicePick_upto'] at N'
  exact k _ h' F' N' fun p hp => Nat.lt_succ_of_lt (Heap.lt_size (N p hp).1)
theorem w_listof {b : Addr} {vs : List Value} {n : Nat} {Q : Value → Shared → Prop} (F : Fr h₀ L s.heap m) (N : News h₀ L s.heap news) (hm : (b, lst vs n) ∈ news) (hb : vs.length ≤ 16777216)
    (h : ∀ D c h', Fr h₀ L h' m → News h₀ L h' ((D, lst vs c) :: news) → Below D news → Q (.ref D) { s with heap := h' }) : wpAny (model prog w) A (call (.type "list") [.ref b]) Q E s :=
  list_copyK F N (isList_of N hm) (fun D c h' F' N' l1 => h D c h' F' N' l1) (by rw [sizeLine_eq]; simpa using hb)
theorem w_lenB {l : Addr} {vs : List Value} {Q : Value → Shared → Prop} (F : Fr h₀ L s.heap m) (hl : h₀.IsList l vs.toArray) (hb : vs.length ≤ 16777216)
    (h : ∀ t' k, Q (.int (vs.length : Int) t') { s with toks := k }) : wpAny (model prog w) A (call (.builtin "len") [.ref l]) Q E s := by
  have hl' : s.heap.IsList l vs.toArray := by obtain ⟨o, e, r⟩ := hl; exact ⟨o, F.keep _ _ e, r⟩
  exact len_list hl' (by rw [List.size_toArray]; omega) (by rw [List.size_toArray]; exact h _ _)
theorem w_lenH {l : Addr} {vs : List Value} {n : Nat} {Q : Value → Shared → Prop} (ha : s.heap.get? l = some (lst vs n)) (hb : vs.length ≤ 16777216)
    (h : ∀ t' k, Q (.int (vs.length : Int) t') { s with toks := k }) : wpAny (model prog w) A (call (.builtin "len") [.ref l]) Q E s :=
  len_list (items := vs.toArray) ⟨_, ha, rfl, n, rfl⟩ (by rw [List.size_toArray]; omega) (by rw [List.size_toArray]; exact h _ _)
theorem w_itemB {value slice : Expr} {l : Addr} {vs : List Value} {ns : List Int} {k : Int} {u : Tok} {Q : Value → Shared → Prop} (F : Fr h₀ L s.heap m) (hl : h₀.IsList l vs.toArray) (hi : IntsAre vs ns) (h0 : 0 ≤ k) (hk : k < (ns.length : Int)) (hb : ns.length ≤ 16777216)
    (h : ∀ t, Q (.int (ns.getD k.toNat 0) t) s) (hs : subscripted slice false (.ref l) (.int k u) = operate [.ref l, .int k u] (getItem (.ref l) (.int k u)) := by with_unfolding_all rfl) :
    wpAny (model prog w) A (subscriptTail value slice (.ref l) (.int k u)) Q E s := by
  obtain ⟨t, e⟩ := intsAre_get hi (i := k.toNat) (by omega)
  exact item_of (by obtain ⟨o, e, r⟩ := hl; exact ⟨o, F.keep _ _ e, r⟩) h0 (by omega) e (h t) hs
theorem w_itemI {value slice : Expr} {l : Addr} {vs : List Value} {ns : List Int} {n : Nat} {k : Int} {u : Tok} {Q : Value → Shared → Prop} (ha : s.heap.get? l = some (lst vs n)) (hi : IntsAre vs ns) (h0 : 0 ≤ k) (hk : k < (ns.length : Int)) (hb : ns.length ≤ 16777216)
    (h : ∀ t, Q (.int (ns.getD k.toNat 0) t) s) (hs : subscripted slice false (.ref l) (.int k u) = operate [.ref l, .int k u] (getItem (.ref l) (.int k u)) := by with_unfolding_all rfl) :
    wpAny (model prog w) A (subscriptTail value slice (.ref l) (.int k u)) Q E s := by
  obtain ⟨t, e⟩ := intsAre_get hi (i := k.toNat) (by omega)
  exact w_listitem ha h0 (by omega) e (h t) hs
theorem w_setat' {D : Addr} {us : List Value} {v : Value} {n : Nat} {k : Int} {t : Tok} {Q : Unit → Shared → Prop} (F : Fr h₀ L s.heap m) (N : News h₀ L s.heap news) (hm : (D, lst us n) ∈ news) (h0 : 0 ≤ k) (hk : k < us.length) (hb : us.length ≤ 16777216) (U : Upd D (lst us n) (lst (us.set k.toNat v) n) news news')
    (h : ∀ h', Fr h₀ L h' m → News h₀ L h' news' → Q () { s with heap := h' }) : wpAny (model prog w) A (setItem (.ref D) (.int k t) v) Q E s := w_setat F N h0 hk hb U h
end
end
section
/-! list comprehensions whose elements leave the heap as it is -/
section
open PyProof.Rows.LCg PyProof.Rows.LCt PyProof.Rows.LCp
variable {prog : Program} {w : World} {A : Around} {E : Value → Shared → Prop} {s : Shared} {h₀ : Heap} {L : Addr} {m : Str → Option Value} {env : Env} {news : List (Addr × Obj)}
theorem rest_U {β : Type} {elt : Expr} {x : Str} {scope : Scope} {cl : List (Str × Addr)} {S : List (Addr × Obj) → Prop} {P : Nat → Value → Prop} {Fin : List Value → List (Addr × Obj) → Prop} (bs : List β) (G : Value → β → Prop) (hS : S news)
    (elts : ∀ i b v I oI C oC D m₂ h tk (E' : Value → Shared → Prop) ys, bs[i]? = some b → P i v → NsObj oC m₂ → m₂ x = some v → Fr h₀ L h m → News h₀ L h ((I, oI) :: (C, oC) :: (D, LCg.lst ys) :: news) →
      wpAny (model prog w) A (eval elt (compEnvC scope cl C env)) (fun y s' => G y b ∧ Keeps { s with heap := h, toks := tk } s') E' { s with heap := h, toks := tk })
    (fin : ∀ ys, All2 G ys bs → Fin ys news) : ∀ k i ys, i + k = bs.length → All2 G ys (bs.take i) → CompRest prog w A h₀ L m env elt x scope cl s S P Fin k i ys news
  | 0, i, ys, hk, hy => by
    rw [show i = bs.length by omega, List.take_length] at hy
    exact CompRest.zero (fin ys hy)
  | k + 1, i, ys, hk, hy => by
    refine CompRest.succ fun v I oI C oC D m₂ h tk E' hP hC hx F N off ne => ?_
    have hb : bs[i]? = some bs[i] := List.getElem?_eq_getElem (by omega)
    refine wpAny_mono (elts i _ v I oI C oC D m₂ h tk E' ys hb hP hC hx F N) (fun y s' hy' => ?_) fun _ _ e => e
    obtain ⟨hg, h', tk', rfl, hk'⟩ := hy'
    refine CompEnd.intro (Fr.ext F hk') (News.ext N hk') news (fun p hp => hp) off hS (rest_U bs G hS elts fin k (i + 1) (ys ++ [y]) (by omega) ?_)
    rw [List.take_add_one, hb]
    exact hy.app (.one hg)
theorem rest_T {β : Type} {ct elt : Expr} {x : Str} {scope : Scope} {cl : List (Str × Addr)} {S : List (Addr × Obj) → Prop} {P : Nat → Value → Prop} {Fin : List Value → List (Addr × Obj) → Prop} (bs : List β) (p : β → Bool) (G : Value → β → Prop) (hS : S news)
    (tst : ∀ i b v I oI C oC D m₂ h tk (E' : Value → Shared → Prop) ys, bs[i]? = some b → P i v → NsObj oC m₂ → m₂ x = some v → Fr h₀ L h m → News h₀ L h ((I, oI) :: (C, oC) :: (D, LCg.lst ys) :: news) →
      wpAny (model prog w) A (isTrue ct (compEnvC scope cl C env) (eval ct (compEnvC scope cl C env))) (fun ok s' => ok = p b ∧ Keeps { s with heap := h, toks := tk } s') E' { s with heap := h, toks := tk })
    (elts : ∀ i b v I oI C oC D m₂ h tk (E' : Value → Shared → Prop) ys, bs[i]? = some b → P i v → p b = true → NsObj oC m₂ → m₂ x = some v → Fr h₀ L h m → News h₀ L h ((I, oI) :: (C, oC) :: (D, LCg.lst ys) :: news) →
      wpAny (model prog w) A (eval elt (compEnvC scope cl C env)) (fun y s' => G y b ∧ Keeps { s with heap := h, toks := tk } s') E' { s with heap := h, toks := tk })
    (fin : ∀ ys, All2 G ys (bs.filter p) → Fin ys news) : ∀ k i ys, i + k = bs.length → All2 G ys ((bs.take i).filter p) → CompRestT prog w A h₀ L m env ct elt x scope cl s S P Fin k i ys news
  | 0, i, ys, hk, hy => by
    rw [show i = bs.length by omega, List.take_length] at hy
    exact CompRestT.zero (fin ys hy)
  | k + 1, i, ys, hk, hy => by
    refine CompRestT.succ fun v I oI C oC D m₂ h tk E' hP hC hx F N off ne => ?_
    have hb : bs[i]? = some bs[i] := List.getElem?_eq_getElem (by omega)
    refine wpAny_mono (tst i _ v I oI C oC D m₂ h tk E' ys hb hP hC hx F N) (fun ok s' hs => ?_) fun _ _ e => e
    obtain ⟨rfl, h', tk', rfl, hk'⟩ := hs
    have ht : (bs.take (i + 1)).filter p = (bs.take i).filter p ++ [bs[i]].filter p := by
      rw [List.take_add_one, hb, List.filter_append]; rfl
    cases hp : p bs[i] with
    | true =>
      rw [if_pos rfl]
      refine wpAny_mono (elts i _ v I oI C oC D m₂ h' tk' E' ys hb hP hp hC hx (Fr.ext F hk') (News.ext N hk')) (fun y s' hy' => ?_) fun _ _ e => e
      obtain ⟨hg, h₂, tk₂, rfl, hk₂⟩ := hy'
      refine CompEnd.intro (Fr.ext F fun b o e => hk₂ _ _ (hk' _ _ e)) (News.ext N fun b o e => hk₂ _ _ (hk' _ _ e)) news (fun p hp => hp) off hS (rest_T bs p G hS tst elts fin k (i + 1) (ys ++ [y]) (by omega) ?_)
      rw [ht]
      simp only [List.filter_cons, hp, if_true, List.filter_nil]
      exact hy.app (.one hg)
    | false =>
      rw [if_neg (by simp)]
      refine CompEnd.intro (Fr.ext F hk') (News.ext N hk') news (fun p hp => hp) off hS (rest_T bs p G hS tst elts fin k (i + 1) ys (by omega) ?_)
      rw [ht]
      simp only [List.filter_cons, hp, List.filter_nil, Bool.false_eq_true, if_false, List.append_nil]
      exact hy
theorem rest_P {β : Type} {elt : Expr} {x x₂ : Str} {scope : Scope} {cl : List (Str × Addr)} {S : List (Addr × Obj) → Prop} {P : Nat → Value → Prop} {Fin : List Value → List (Addr × Obj) → Prop} (bs : List β) (G : Value → β → Prop) (hS : S news)
    (pair : ∀ i b v, bs[i]? = some b → P i v → ∃ (t : Addr) (ot : Obj) (v₁ v₂ : Value) (nt : Nat), v = .ref t ∧ (t, ot) ∈ news ∧ ot.cls = .type "tuple" ∧ ot.data = .seq #[v₁, v₂] nt ∧
      ∀ I oI C oC D m₂ h tk (E' : Value → Shared → Prop) ys, NsObj oC m₂ → m₂ x = some v₁ → m₂ x₂ = some v₂ → Fr h₀ L h m → News h₀ L h ((I, oI) :: (C, oC) :: (D, LCg.lst ys) :: news) →
        wpAny (model prog w) A (eval elt (compEnvC scope cl C env)) (fun y s' => G y b ∧ Keeps { s with heap := h, toks := tk } s') E' { s with heap := h, toks := tk })
    (fin : ∀ ys, All2 G ys bs → Fin ys news) : ∀ k i ys, i + k = bs.length → All2 G ys (bs.take i) → CompRestP prog w A h₀ L m env elt x x₂ scope cl s S P Fin k i ys news
  | 0, i, ys, hk, hy => by
    rw [show i = bs.length by omega, List.take_length] at hy
    exact CompRestP.zero (fin ys hy)
  | k + 1, i, ys, hk, hy => by
    intro v hP
    have hb : bs[i]? = some bs[i] := List.getElem?_eq_getElem (by omega)
    obtain ⟨t, ot, v₁, v₂, nt, e1, e2, e3, e4, elts⟩ := pair i _ v hb hP
    refine ⟨t, ot, v₁, v₂, nt, e1, e2, e3, e4, fun I oI C oC D m₂ h tk E' hC hx hx₂ F N off ne => ?_⟩
    refine wpAny_mono (elts I oI C oC D m₂ h tk E' ys hC hx hx₂ F N) (fun y s' hy' => ?_) fun _ _ e => e
    obtain ⟨hg, h', tk', rfl, hk'⟩ := hy'
    refine CompEnd.intro (Fr.ext F hk') (News.ext N hk') news (fun p hp => hp) off hS (rest_P bs G hS pair fin k (i + 1) (ys ++ [y]) (by omega) ?_)
    rw [List.take_add_one, hb]
    exact hy.app (.one hg)
theorem off1_ne {D : Addr} (l : List (Addr × Obj)) (h : Off1 D l) : ∀ p ∈ l, p.1 ≠ D := by
  induction l with
  | nil => intro p hp; cases hp
  | cons a r ih =>
    obtain ⟨h1, h2⟩ := h
    intro p hp
    rcases List.mem_cons.mp hp with e | hp
    · rw [e]; exact h1
    · exact ih h2 p hp
end
section
variable {prog : Program} {w : World} {A : Around} {E : Value → Shared → Prop} {s : Shared} {h₀ : Heap} {L : Addr} {m : Str → Option Value} {news news' : List (Addr × Obj)}
theorem w_inints {l : Addr} {vs : List Value} {ns : List Int} {n : Nat} {k : Int} {t : Tok} {Q : Value → Shared → Prop} (ha : s.heap.get? l = some (lst vs n)) (hi : IntsAre vs ns)
    (h : Q (.bool (ns.any (· == k))) s) : wpAny (model prog w) A (compareOp .In (.int k t) (.ref l)) Q E s := in_list_ints ⟨_, ha, rfl, n, rfl⟩ hi h
theorem w_intup {l : Addr} {vs : List Value} {ys : List Str} {n : Nat} {x : Str} {t : Tok} {Q : Value → Shared → Prop} (ha : s.heap.get? l = some (tupO vs n)) (hi : StrsAre vs ys)
    (h : Q (.bool (ys.any (· == x))) s) : wpAny (model prog w) A (compareOp .In (.str x t) (.ref l)) Q E s := in_tuple_strs (items := vs.toArray) ⟨_, ha, rfl, n, rfl⟩ (by simpa using hi) h
end
/-- the places of the rows that have words -/
def hasWords (rows : List PRow) (i : Nat) : Bool := !(rows.getD i (Str.empty, [])).2.isEmpty
def fullOf (rows : List PRow) : List Nat := (List.range rows.length).filter (hasWords rows)
def asInts (l : List Nat) : List Int := l.map fun (i : Nat) => (i : Int)
theorem ints_of_all2 : ∀ {vs : List Value} {l : List Nat}, All2 (fun v (b : Nat) => ∃ t, v = .int (b : Int) t) vs l → IntsAre vs (asInts l)
  | _, _, .nil => .nil
  | _, _, .cons ⟨t, e⟩ h => by rw [e]; exact .cons _ t (ints_of_all2 h)
theorem strs_of_all2 {β : Type} {f : β → Str} : ∀ {vs : List Value} {l : List β}, All2 (fun v b => ∃ t, v = .str (f b) t) vs l → StrsAre vs (l.map f)
  | _, _, .nil => .nil
  | _, _, .cons ⟨t, e⟩ h => by rw [e]; exact .cons _ t (strs_of_all2 h)
theorem mem_full {rows : List PRow} {i : Nat} : i ∈ fullOf rows ↔ i < rows.length ∧ hasWords rows i = true := by
  unfold fullOf
  rw [List.mem_filter, List.mem_range]
theorem any_full {rows : List PRow} {i : Nat} : (asInts (fullOf rows)).any (· == (i : Int)) = true ↔ i < rows.length ∧ hasWords rows i = true := by
  rw [← mem_full]
  unfold asInts
  simp only [List.any_eq_true, List.mem_map, beq_iff_eq]
  constructor
  · rintro ⟨x, ⟨a, ha, rfl⟩, hx⟩
    have : a = i := by omega
    exact this ▸ ha
  · intro h
    exact ⟨_, ⟨i, h, rfl⟩, rfl⟩
theorem bare_lt {rows : List PRow} : (∀ i, i < bareRows rows → hasWords rows i = false) ∧ (bareRows rows < rows.length → hasWords rows (bareRows rows) = true) ∧ bareRows rows ≤ rows.length := by
  have key : ∀ l : List PRow, (∀ i, i < (l.takeWhile fun r => r.2.isEmpty).length → hasWords l i = false) ∧ ((l.takeWhile fun r => r.2.isEmpty).length < l.length → hasWords l (l.takeWhile fun r => r.2.isEmpty).length = true) ∧ (l.takeWhile fun r => r.2.isEmpty).length ≤ l.length := by
    intro l
    induction l with
    | nil => exact ⟨fun i hi => absurd hi (Nat.not_lt_zero _), fun h => absurd h (Nat.not_lt_zero _), Nat.le_refl _⟩
    | cons a r ih =>
      rw [List.takeWhile_cons]
      cases e : a.2.isEmpty with
      | true =>
        rw [if_pos rfl, List.length_cons, List.length_cons]
        refine ⟨fun i hi => ?_, fun h => ih.2.1 (by omega), by have := ih.2.2; omega⟩
        cases i with
        | zero => show (!a.2.isEmpty) = false; rw [e]; rfl
        | succ i => exact ih.1 i (by omega)
      | false =>
        rw [if_neg (by simp)]
        exact ⟨fun i hi => absurd hi (Nat.not_lt_zero _), fun _ => by show (!a.2.isEmpty) = true; rw [e]; rfl, Nat.zero_le _⟩
  exact key rows
theorem full_nil {rows : List PRow} (h : fullOf rows = []) : runRows rows = [] := by
  have hb := bare_lt (rows := rows)
  rcases Nat.lt_or_ge (bareRows rows) rows.length with q | q
  · have : bareRows rows ∈ fullOf rows := mem_full.mpr ⟨q, hb.2.1 q⟩
    rw [h] at this; cases this
  · unfold runRows
    rw [List.drop_eq_nil_of_le q]; rfl
theorem full_head {rows : List PRow} (h : fullOf rows ≠ []) : bareRows rows < rows.length ∧ ∃ r, fullOf rows = bareRows rows :: r := by
  have hb := bare_lt (rows := rows)
  have hlt : bareRows rows < rows.length := by
    cases e : fullOf rows with
    | nil => exact absurd e h
    | cons a r =>
      have ha : a ∈ fullOf rows := by rw [e]; exact List.mem_cons_self ..
      obtain ⟨h1, h2⟩ := mem_full.mp ha
      rcases Nat.lt_or_ge a (bareRows rows) with q | q
      · rw [hb.1 a q] at h2; cases h2
      · omega
  refine ⟨hlt, ((List.range' (bareRows rows + 1) (rows.length - (bareRows rows + 1))).filter (hasWords rows)), ?_⟩
  unfold fullOf
  have e1 : List.range rows.length = List.range' 0 (bareRows rows) ++ (bareRows rows :: List.range' (bareRows rows + 1) (rows.length - (bareRows rows + 1))) := by
    rw [List.range_eq_range', ← List.range'_succ, show rows.length - (bareRows rows + 1) + 1 = rows.length - bareRows rows by omega]
    have := List.range'_append (s := 0) (m := bareRows rows) (n := rows.length - bareRows rows) (step := 1)
    rw [show bareRows rows + (rows.length - bareRows rows) = rows.length by omega] at this
    rw [← this]
    congr 2
    omega
  rw [e1, List.filter_append]
  have e2 : (List.range' 0 (bareRows rows)).filter (hasWords rows) = [] := by
    rw [List.filter_eq_nil_iff]
    intro a ha
    have := (List.mem_range'_1.mp ha).2
    rw [hb.1 a (by omega)]; simp
  rw [e2, List.nil_append, List.filter_cons, if_pos (hb.2.1 hlt)]
theorem run_len {rows : List PRow} {j : Nat} (h1 : ∀ i, i < j → bareRows rows + i < rows.length ∧ hasWords rows (bareRows rows + i) = true) (h2 : ¬ (bareRows rows + j < rows.length ∧ hasWords rows (bareRows rows + j) = true)) :
    (runRows rows) = (rows.drop (bareRows rows)).take j := by
  unfold runRows
  refine takeWhile_is (d := (Str.empty, [])) _ j ?_ (fun i hi => ?_) (fun hl => ?_)
  · rw [List.length_drop]
    rcases j with _ | j
    · exact Nat.zero_le _
    · have := (h1 j (Nat.lt_succ_self _)).1
      omega
  · rw [getD_drop]; exact (h1 i hi).2
  · rw [List.length_drop] at hl
    rw [getD_drop]
    cases e : (!(rows.getD (bareRows rows + j) (Str.empty, [])).2.isEmpty) with
    | false => rfl
    | true => exact absurd ⟨by omega, e⟩ h2
end
section
theorem All2.drop {α β : Type} {R : α → β → Prop} : ∀ {l : List α} {k : List β}, All2 R l k → ∀ n, All2 R (l.drop n) (k.drop n)
  | _, _, h, 0 => h
  | _, _, .nil, _ + 1 => .nil
  | _, _, .cons _ h, n + 1 => h.drop n
theorem All2.take {α β : Type} {R : α → β → Prop} : ∀ {l : List α} {k : List β}, All2 R l k → ∀ n, All2 R (l.take n) (k.take n)
  | _, _, _, 0 => .nil
  | _, _, .nil, _ + 1 => .nil
  | _, _, .cons x h, n + 1 => .cons x (h.take n)
theorem run_take (rows : List PRow) : runRows rows = (rows.drop (bareRows rows)).take (runRows rows).length := by
  unfold runRows
  exact (take_takeWhile _).symm
theorem run_end (rows : List PRow) : bareRows rows + (runRows rows).length ≤ rows.length := by
  have h1 := (bare_lt (rows := rows)).2.2
  have h2 : (runRows rows).length ≤ (rows.drop (bareRows rows)).length := by unfold runRows; exact (List.takeWhile_prefix _).length_le
  rw [List.length_drop] at h2
  omega
section
variable {prog : Program} {w : World} {A : Around} {E : Value → Shared → Prop} {h₀ : Heap} {L : Addr} {m : Str → Option Value} {news news' : List (Addr × Obj)}
theorem w_cut {value slice : Expr} {l : Addr} {vs : List Value} {n a b : Nat} {ta tb : Tok} {Q : Value → Shared → Prop} {h : Heap} {ge : _} {dr : _} {tk : Nat} {os : _} (F : Fr h₀ L h m) (N : News h₀ L h news) (hl : h.get? l = some (lst vs n)) (hab : a ≤ b) (hbl : b ≤ vs.length) (hb : vs.length ≤ 16777216)
    (k : ∀ D h', Fr h₀ L h' m → News h₀ L h' ((D, lst ((vs.drop a).take (b - a))) :: news) → Below D news → Q (.ref D) ⟨h', ge, dr, tk, os⟩)
    (hs : subscripted slice false (.ref l) (.ref h.objs.size) = operate [.ref h.objs.size, .ref l] (getItem (.ref l) (.ref h.objs.size)) := by with_unfolding_all rfl)
    (ht : ∀ r, letTemporaryGo value (.ref l) r = pure () := by intro _; with_unfolding_all rfl) :
    wpAny (model prog w) A (subscriptTail value slice (.ref l) (.ref h.objs.size)) Q E ⟨h.push { cls := .type "slice", data := .fields #[.int (a : Int) ta, .int (b : Int) tb, .none] }, ge, dr, tk, os⟩ := by
  refine slice_list (s := ⟨h, ge, dr, tk, os⟩) F N ⟨_, hl, rfl, n, rfl⟩ (.int _ _) (.int _ _) (fun h' F' N' => ?_) hs ht (by rw [sizeLine_eq]; simpa using hb)
  rw [slicePick_run vs.toArray a b (by simpa using hbl) hab] at N'
  exact k _ h' F' N' fun p hp => Nat.lt_succ_of_lt (Heap.lt_size (N p hp).1)
theorem w_uptoH {value slice : Expr} {l : Addr} {vs : List Value} {n i : Nat} {ti : Tok} {Q : Value → Shared → Prop} {h : Heap} {ge : _} {dr : _} {tk : Nat} {os : _} (F : Fr h₀ L h m) (N : News h₀ L h news) (hl : h.get? l = some (lst vs n)) (hb : vs.length ≤ 16777216)
    (k : ∀ D h', Fr h₀ L h' m → News h₀ L h' ((D, lst (vs.take i)) :: news) → Below D news → Q (.ref D) ⟨h', ge, dr, tk, os⟩)
    (hs : subscripted slice false (.ref l) (.ref h.objs.size) = operate [.ref h.objs.size, .ref l] (getItem (.ref l) (.ref h.objs.size)) := by with_unfolding_all rfl)
    (ht : ∀ r, letTemporaryGo value (.ref l) r = pure () := by intro _; with_unfolding_all rfl) :
    wpAny (model prog w) A (subscriptTail value slice (.ref l) (.ref h.objs.size)) Q E ⟨h.push { cls := .type "slice", data := .fields #[.none, .int (i : Int) ti, .none] }, ge, dr, tk, os⟩ := by
  refine slice_list (s := ⟨h, ge, dr, tk, os⟩) F N ⟨_, hl, rfl, n, rfl⟩ .none (.int _ _) (fun h' F' N' => ?_) hs ht (by rw [sizeLine_eq]; simpa using hb)
  rw [slicePick_upto'] at N'
  exact k _ h' F' N' fun p hp => Nat.lt_succ_of_lt (Heap.lt_size (N p hp).1)
theorem w_fromH {value slice : Expr} {l : Addr} {vs : List Value} {n i : Nat} {ti : Tok} {Q : Value → Shared → Prop} {h : Heap} {ge : _} {dr : _} {tk : Nat} {os : _} (F : Fr h₀ L h m) (N : News h₀ L h news) (hl : h.get? l = some (lst vs n)) (hb : vs.length ≤ 16777216)
    (k : ∀ D h', Fr h₀ L h' m → News h₀ L h' ((D, lst (vs.drop i)) :: news) → Below D news → Q (.ref D) ⟨h', ge, dr, tk, os⟩)
    (hs : subscripted slice false (.ref l) (.ref h.objs.size) = operate [.ref h.objs.size, .ref l] (getItem (.ref l) (.ref h.objs.size)) := by with_unfolding_all rfl)
    (ht : ∀ r, letTemporaryGo value (.ref l) r = pure () := by intro _; with_unfolding_all rfl) :
    wpAny (model prog w) A (subscriptTail value slice (.ref l) (.ref h.objs.size)) Q E ⟨h.push { cls := .type "slice", data := .fields #[.int (i : Int) ti, .none, .none] }, ge, dr, tk, os⟩ := by
  refine slice_list (s := ⟨h, ge, dr, tk, os⟩) F N ⟨_, hl, rfl, n, rfl⟩ (.int _ _) .none (fun h' F' N' => ?_) hs ht (by rw [sizeLine_eq]; simpa using hb)
  rw [slicePick_from'] at N'
  exact k _ h' F' N' fun p hp => Nat.lt_succ_of_lt (Heap.lt_size (N p hp).1)
theorem w_replace {s : Shared} {x y z : Str} {t u v : Tok} {Q : Value → Shared → Prop} (hu : u ≠ 0) (hv : v ≠ 0) (huv : u ≠ v) (hyz : (y == z) = false) (hx : x.length ≤ 100000) (hz : z.length ≤ 14)
    (hq : ∀ t' k, Q (.str (Txt.replace x y z) t') { s with toks := k }) : wpAny (model prog w) A (call (.builtin "str.replace") [.str x t, .str y u, .str z v]) Q E s := SC.replaceW hu hv huv hyz (by omega) hz hq
end
/-- the spans, as a list of pairs of numbers -/
def SpanBy (At : Addr → Obj → Prop) (v : Value) (p : Nat × Nat) : Prop := ∃ x n t1 t2, v = .ref x ∧ At x (tupO [.int (p.1 : Int) t1, .int (p.2 : Int) t2] n)
theorem SpanBy.mono {At At' : Addr → Obj → Prop} (h : ∀ a o, At a o → At' a o) {v : Value} {p : Nat × Nat} (x : SpanBy At v p) : SpanBy At' v p := by
  obtain ⟨a, n, t1, t2, e, x⟩ := x
  exact ⟨a, n, t1, t2, e, h _ _ x⟩
theorem gap_any (g : Str) : ([Str.ofString "", Str.ofString " "].any (· == g)) = !twoOf g := by
  unfold twoOf
  have e1 : (Str.ofString "" == g) = (g == Str.ofString "") := by
    rw [Bool.eq_iff_iff, beq_iff_eq, beq_iff_eq]; exact eq_comm
  have e2 : (Str.ofString " " == g) = (g == blank) := by
    rw [Bool.eq_iff_iff, beq_iff_eq, beq_iff_eq]; exact eq_comm
  rw [List.any_cons, List.any_cons, List.any_nil, e1, e2]
  unfold bne
  cases (g == Str.ofString "") <;> cases (g == blank) <;> rfl
theorem spans_grow : ∀ (l : List Pair) (st : Str × List (Nat × Nat)), (∀ p ∈ l, p.1.length ≤ 10) → (l.foldl spansStep st).1.length ≤ st.1.length + 12 * l.length ∧ (l.foldl spansStep st).2.length = st.2.length + l.length
  | [], st, _ => ⟨by simp, by simp⟩
  | p :: l, st, h => by
    obtain ⟨h1, h2⟩ := spans_grow l (spansStep st p) fun q hq => h q (List.mem_cons_of_mem _ hq)
    have hp := h p (List.mem_cons_self ..)
    have e1 : (spansStep st p).1.length ≤ st.1.length + p.1.length + 2 := by
      unfold spansStep
      dsimp only
      have ha : (Str.ofString "  ").length = 2 := rfl
      have hb : (Str.ofString " ").length = 1 := rfl
      split <;> rw [str_append_len, str_append_len] <;> omega
    have e2 : (spansStep st p).2.length = st.2.length + 1 := by
      unfold spansStep
      dsimp only
      rw [List.length_append, List.length_singleton]
    rw [List.foldl_cons, List.length_cons]
    omega
theorem w_unpack2 {prog : Program} {w : World} {A : Around} {E : Value → Shared → Prop} {s : Shared} {h₀ : Heap} {L a t : Addr} {m : Str → Option Value} {news : List (Addr × Obj)} {cn : Str} {cs : Scope} {ccd : Value} {x y : Str} {px py pos : Pos} {k : Nat} {v₁ v₂ : Value} {n : Nat} {Q : Unit → Shared → Prop}
    (hh : A.handled = none) (F : Fr h₀ L s.heap m) (N : News h₀ L s.heap news) (ht : s.heap.get? t = some (tupO [v₁, v₂] n))
    (h : ∀ h' tk, Fr h₀ L h' (fun z => if z = y then some v₂ else if z = x then some v₁ else m z) → News h₀ L h' news → Q () { s with heap := h', toks := tk })
    (hk : cs.kind = .function := by rfl) (hx : (envOfC cn cs L a ccd).kindOf x = some .local := by rfl) (hy : (envOfC cn cs L a ccd).kindOf y = some .local := by rfl) :
    wpAny (model prog w) A (assign (.Tuple [.Name x px, .Name y py] k pos) (envOfC cn cs L a ccd) (.ref t)) Q E s := by
  refine assign_Tuple_tuple (items := #[v₁, v₂]) hh ⟨_, ht, rfl, n, rfl⟩ rfl rfl fun h₅ he => ?_
  have he' : s.heap.StaysIn h₅ := fun b o e => he b o (Nat.ne_of_lt (Heap.lt_size e)) e
  refine assignInOrder_cons (wpAny_assign_Name (c_store (Fr.ext F he') (News.ext N he') (fun h₆ tk₆ F₆ N₆ => ?_) hk hx))
  refine assignInOrder_cons (wpAny_assign_Name (c_store F₆ N₆ (fun h₇ tk₇ F₇ N₇ => ?_) hk hy))
  exact assignInOrder_nil (h h₇ tk₇ F₇ N₇)
/-- a loop over a list that its head makes -/
theorem For_listK {prog : Program} {w : World} {A : Around} {s : Shared} {env : Env} {h₀ : Heap} {Q : Flow → Shared → Prop} {target iter : Expr} {body : List Stmt} {pos : Pos} (hh : A.handled = none)
    (hiter : wpAny (model prog w) A (eval iter env) (fun x s₁ => ∃ (l : Addr) (h₁ : Heap) (tk : Nat) (m : Str → Option Value) (news : List (Addr × Obj)) (items : Array Value) (kept : List (Addr × Obj)) (J : Nat → (Str → Option Value) → List (Addr × Obj) → Prop), x = .ref l ∧ s₁ = { s with heap := h₁, toks := tk } ∧ Fr h₀ env.locals h₁ m ∧ News h₀ env.locals h₁ news ∧ h₁.IsList l items ∧ Held h₀ kept l ∧ (∀ i m news, J i m news → ∀ p ∈ kept, p ∈ news) ∧ J 0 m news ∧
      (∀ i v m₁ news₁ h₁ tk₁ I o, items[i]? = some v → J i m₁ news₁ → Fr h₀ env.locals h₁ m₁ → News h₀ env.locals h₁ ([(I, o)] ++ news₁) → (∀ p ∈ [(I, o)], ∀ q ∈ news₁, q.1 ≠ p.1) →
        wpAny (model prog w) A (assign target env v) (fun _ s₂ => wpAny (model prog w) A (execs body env) (Turned h₀ env.locals s [(I, o)] (J (i + 1)) Q) (fun _ _ => False) s₂) (fun _ _ => False) { s with heap := h₁, toks := tk₁ }) ∧
      (∀ m' news' h' tk, J items.size m' news' → Fr h₀ env.locals h' m' → News h₀ env.locals h' news' → Q .next { s with heap := h', toks := tk })) (fun _ _ => False) s)
    (hs : ∀ x, foldedSetIterable iter env x = pure x := by intro _; rfl) :
    wpAny (model prog w) A (exec (.For target iter body [] pos) env) Q (fun _ _ => False) s := by
  refine wpAny_For (wpAny_mono hiter (fun x s₁ hx => ?_) fun _ _ x => x.elim) hs
  obtain ⟨l, h₁, tk, m, news, items, kept, J, rfl, rfl, F, N, hl, hld, hJk, h0, turn, done⟩ := hx
  refine wpAny_pyIter_list hl ?_
  obtain ⟨ol, hol, hlr⟩ := id hl
  have hne : l ≠ h₁.objs.size := Nat.ne_of_lt (Heap.lt_size hol)
  refine codeAny_mono (for_walks (s := { s with heap := h₁.push _, toks := tk }) (news := news) (kept := kept) (n := items.size) (h₀ := h₀) (Q := Q) J (Walks.list hh h₁.objs.size l hne items) (List.mem_cons_self ..) (fun i h st => ?_) (fun i s' v Q' st hq => ?_) ?_ hJk (Nat.ne_of_lt F.ns.lt) (next_is_new F)
    (fun p hp => Nat.ne_of_lt (Heap.lt_size (N p hp).1)) ⟨⟨_, Heap.get?_push_size _ rfl, rfl, rfl⟩, hl.at fun o e => Heap.get?_push_of_some _ e⟩ (F.push _) (fun p hp => ⟨Heap.get?_push_of_some _ (N p hp).1, (N p hp).2⟩) h0 ?_ ?_) ?_
  · obtain ⟨⟨o, ho, _⟩, _⟩ := st; exact ⟨o, ho⟩
  · obtain ⟨⟨o, ho, hc, _⟩, _⟩ := st; exact let_iter ho hc (by decide) hq
  · intro b hb
    rcases List.mem_cons.mp hb with rfl | hb
    · exact .inl rfl
    · exact .inr ((List.mem_singleton.mp hb) ▸ hld)
  · exact fun i v m₁ news₁ h₁ tk₁ o _ hP hJ F N d => turn i v m₁ news₁ h₁ tk₁ _ o hP hJ F N d
  · exact fun m' news' h' tk hJ F N => done m' news' h' tk hJ F N
  · intro r s' hr
    cases r with
    | ok f => exact hr
    | error e => exact hr.elim
end
section
local macro_rules | `(tactic| walk_at "subscriptTail Name Name ref int") => `(tactic| k_dflt (first | (refine w_listitem (by frow_left) (by omega) (by omega) (by assumption) ?_) | (refine w_menu (by frow_left) (by omega) (by omega) (by omega) ?_)))
local macro_rules | `(tactic| walk_at "subscriptTail Name BinOp ref int") => `(tactic| k_dflt (refine w_menuS (by frow_left) (by assumption) (by omega) (by omega) (by omega) (fun t' => ?_)))
local macro_rules | `(tactic| walk_at "call ref") => `(tactic| k_dflt (first | (refine call_bare0 (by k_asm) (by k_asm) (by k_asm) (by k_asm) (by show _ + 1 < _; omega) (by apart_at) (fun h' tk' F' N' => ?_)) | (refine call_bare1 (by k_asm) (by k_asm) (by k_asm) (by k_asm) (by show _ + 1 < _; omega) (by seq_post) (by frow_left) (by ktr_room) (fun h' tk' tb' t' F' N' a' => ?_))))
local macro_rules | `(tactic| walk_at "assign Tuple cons ref") => `(tactic| k_dflt (refine w_unpack2 (by assumption) (by k_asm) (by k_asm) (by frow_left) (fun h' tk' F' N' => ?_)))
section
set_option pp.maxSteps 3000 in
set_option maxHeartbeats 8000000 in
theorem rows_turn : ∀ {w : World} {A : Around} {s : Shared} {h₀ : Heap} {mg mb : Str → Option Value} {L I R WL LL ra pa : Addr} {o : Obj} {m : Str → Option Value} {news rest : List (Addr × Obj)} {refs vs wv lv : List Value} {nR na np nw nl : Nat} {tl t tt : Tok} {k total : Int} {st : List PRow × PRow} {P : Flow → Shared → Prop}
    {name qual : Str} {params : Arguments} {body : List Stmt} {scope : Scope} {dV kV doc pm cdv ct oc : Value} {an od : Option Addr} {osl : Array (Option Value)}
    (ho : (hd.heap_39 w.params).lookup 95 = some ⟨oc, od, .func (fnOf name qual params body scope dV kV doc pm an cdv ct), osl⟩)
    (X₀ : (hd.heap_39 w.params).In h₀) (T₀ : TR mg mb h₀) (hroom : A.depth + 3 < recursionLimit) (F : Fr h₀ L s.heap m) (N : News h₀ L s.heap ((I, o) :: news)) (hI : ∀ q ∈ news, q.1 ≠ I)
    (Z : RowsLed news R WL LL st refs nR ra pa tl na vs np wv nw lv nl rest) (hrl : refs.length ≤ 900) (hvl : vs.length ≤ 900) (hm : Rows7 m R WL LL total tt) (mk : m (Str.ofString "number") = some (.int k t))
    (hP : ∀ h' tk m' news' refs' nR' ra' pa' tl' na' vs' np' rest', Fr h₀ L h' m' → News h₀ L h' ((I, o) :: news') → (∀ q ∈ news', q.1 ≠ I) → RowsLed news' R WL LL (rowsStep st k) refs' nR' ra' pa' tl' na' vs' np' wv nw lv nl rest' → Rows7 m' R WL LL total tt →
      P .next { s with heap := h', toks := tk }),
    wpAny (model PySem.Challenge.rw_sc0019_01.prog w) (A.deeper (envOf qual scope L 95 cdv)) (execs (loopBody (nthS body 3)) (envOf qual scope L 95 cdv)) P (fun _ _ => False) s := by
  k_fill
  intro w A s h₀ mg mb L I R WL LL ra pa o m news rest refs vs wv lv nR na np nw nl tl t tt k total st P name qual params body scope dV kV doc pm cdv ct oc an od osl ho X₀ T₀ hroom F N hI Z hrl hvl hm mk hP
  obtain ⟨rfl, rfl, rfl, rfl⟩ := fn_inj ho (by k_is)
  dsimp only [nthS, loopBody]
  obtain ⟨mr, mw, ml, mt⟩ := hm
  obtain ⟨rfl, d1, d2, d3, f1, f2, zw, zwa, zl, zla, zd, zc⟩ := Z
  have hwl : wv.length = 6 := zwa.length
  have hll : lawLeads.length = 4 := rfl
  have hRI : R ≠ I := hI (R, lst (refs ++ [.ref ra]) nR) (.head _)
  have hpI : pa ≠ I := hI (pa, lst vs np) (.tail _ (.head _))
  have hrI : ra ≠ I := hI (ra, lst [.str st.2.1 tl, .ref pa] na) (.tail _ (.tail _ (.head _)))
  have hk0 : 0 ≤ k % 10 := Int.emod_nonneg _ (by decide)
  have hk9 : k % 10 < 10 := Int.emod_lt_of_pos _ (by decide)
  clear ho
  have e10 : k.fmod 10 = k % 10 := Int.fmod_eq_emod_of_nonneg _ (by decide)
  back_in
  rename Fr _ _ _ _ => F1
  rename News _ _ _ _ => N1
  rw [e10] at F1
  walk1
  (try dsimp only)
  back_in
  · rename k % 10 < 6 => hk
    rename Fr _ _ _ _ => F2
    rename News _ _ _ _ => N2
    have e : rowsStep st k = (st.1, (st.2.1, st.2.2 ++ [wordAt (k % 10).toNat])) := if_pos hk
    rw [e] at hP
    refine hP _ _ _ _ refs nR ra pa tl na _ _ rest F2 N2 ?_ ⟨rfl, d1, d2, d3, f1, f2, zw, zwa, zl, zla, zd, zc.app (.one (word_by zwa (by omega)))⟩ ⟨by ktr_rel, by ktr_rel, by ktr_rel, by ktr_rel⟩
    intro q hq
    rcases List.mem_cons.mp hq with rfl | hq
    · exact hRI
    rcases List.mem_cons.mp hq with rfl | hq
    · exact hpI
    · exact hI q (.tail _ (.tail _ hq))
  · rename ¬(k % 10 < 6) => hk
    have hIr : ∀ q ∈ rest, q.1 ≠ I := fun q hq => hI q (.tail _ (.tail _ (.tail _ hq)))
    have e : rowsStep st k = (st.1 ++ [(st.2.1, bareIf (k / 10 % 2 == 0) st.2.2)], (leadAt (k % 10 - 6).toNat, [])) := if_neg hk
    rw [e] at hP
    obtain ⟨m₂, hm₂⟩ : ∃ m₂ : Str → Option Value, m₂ = (fun y => if y = Str.ofString "sort" then some (Value.int (k % 10) (s.toks + 1)) else m y) := ⟨_, rfl⟩
    rw [← hm₂] at F1
    have mr : m₂ (Str.ofString "rows") = some (.ref R) := by rw [hm₂]; ktr_rel
    have mw : m₂ (Str.ofString "words") = some (.ref WL) := by rw [hm₂]; ktr_rel
    have ml : m₂ (Str.ofString "leads") = some (.ref LL) := by rw [hm₂]; ktr_rel
    have mt : m₂ (Str.ofString "total") = some (.int total tt) := by rw [hm₂]; ktr_rel
    have mk : m₂ (Str.ofString "number") = some (.int k t) := by rw [hm₂]; ktr_rel
    have ms : m₂ (Str.ofString "sort") = some (.int (k % 10) (s.toks + 1)) := by rw [hm₂]; ktr_rel
    clear hm₂
    refine endd (E := fun _ _ => False) (fun f s' => f = .next ∧ ∃ h' tk vs' rest', s' = { s with heap := h', toks := tk } ∧ Fr h₀ L h' m₂ ∧ News h₀ L h' ((I, o) :: (R, lst (refs ++ [.ref ra]) nR) :: (pa, lst vs' np) :: (ra, lst [.str st.2.1 tl, .ref pa] na) :: rest') ∧ (∀ p ∈ rest, p ∈ rest') ∧
      (∀ p ∈ rest', p.1 ≠ R) ∧ (∀ p ∈ rest', p.1 ≠ pa) ∧ (∀ p ∈ rest', p.1 ≠ I) ∧ vs'.length ≤ 900 ∧ All2 (PairBy (InL rest')) vs' (bareIf (k / 10 % 2 == 0) st.2.2)) ?_ (fun _ _ h => h) ?_
    · have efd : (k.fdiv 10).fmod 2 = k / 10 % 2 := by rw [Int.fdiv_eq_ediv_of_nonneg _ (by decide), Int.fmod_eq_emod_of_nonneg _ (by decide)]
      rcases zc.snoc_or with ⟨ev, ec⟩ | ⟨us, v, cs, c, ev, ec, zcs, ta, nt, t1, t2, rfl, zta⟩
      · subst ev
        walk1
        (try dsimp only)
        back_in
        all_goals (rename Fr _ _ _ _ => F4)
        all_goals (rename News _ _ _ _ => N4)
        all_goals exact ⟨rfl, _, _, [], rest, rfl, F4, N4, fun _ h => h, f1, f2, hIr, Nat.zero_le _, by rw [ec, bareIf_nil]; exact .nil⟩
      · subst ev
        rw [List.length_append, List.length_singleton] at hvl
        walk1
        (try dsimp only)
        back_in
        · rename Fr _ _ _ _ => F4
          rename News _ _ _ _ => N4
          rename Int.fmod _ _ = 0 => hc
          rename (∀ p : Addr × Obj, p ∈ _ → p.1 ≠ _) => ha
          rw [efd] at hc
          obtain ⟨tb, tkb, N4, ha⟩ : ∃ tb tkb, News h₀ L _ ((tb, tupO [.str c.1 t1, .str (Str.ofString "") tkb]) :: (I, o) :: (R, lst (refs ++ [.ref ra]) nR) :: (pa, lst (us ++ [.ref tb]) np) :: (ra, lst [.str st.2.1 tl, .ref pa] na) :: rest) ∧
            ∀ p ∈ ((I, o) :: (R, lst (refs ++ [.ref ra]) nR) :: (pa, lst (us ++ [.ref ta]) np) :: (ra, lst [.str st.2.1 tl, .ref pa] na) :: rest), p.1 ≠ tb := ⟨_, _, N4, ha⟩
          refine ⟨rfl, _, _, us ++ [.ref tb], (tb, tupO [.str c.1 t1, .str (Str.ofString "") tkb]) :: rest, rfl, F4, News.sub N4 (fun p hp => ?_), fun _ h => .tail _ h, fun p hp => ?_, fun p hp => ?_, fun p hp => ?_, by rw [List.length_append, List.length_singleton]; omega, ?_⟩
          · rcases List.mem_cons.mp hp with rfl | hp
            · exact .tail _ (.head _)
            rcases List.mem_cons.mp hp with rfl | hp
            · exact .tail _ (.tail _ (.head _))
            rcases List.mem_cons.mp hp with rfl | hp
            · exact .tail _ (.tail _ (.tail _ (.head _)))
            rcases List.mem_cons.mp hp with rfl | hp
            · exact .tail _ (.tail _ (.tail _ (.tail _ (.head _))))
            rcases List.mem_cons.mp hp with rfl | hp
            · exact .head _
            · exact .tail _ (.tail _ (.tail _ (.tail _ (.tail _ hp))))
          · rcases List.mem_cons.mp hp with rfl | hp
            · exact Ne.symm (ha _ (.tail _ (.head _)))
            · exact f1 p hp
          · rcases List.mem_cons.mp hp with rfl | hp
            · exact Ne.symm (ha _ (.tail _ (.tail _ (.head _))))
            · exact f2 p hp
          · rcases List.mem_cons.mp hp with rfl | hp
            · exact Ne.symm (ha _ (.head _))
            · exact hIr p hp
          · rw [ec, beq_iff_eq.mpr hc]
            show All2 _ _ (bareP (cs ++ [c]))
            rw [bareP_snoc]
            exact (zcs.mono fun _ _ => PairBy.mono fun _ _ h => .tail _ h).app (.one ⟨_, _, _, _, rfl, .head _⟩)
        · rename Fr _ _ _ _ => F4
          rename News _ _ _ _ => N4
          rename Int.fmod _ _ ≠ 0 => hc
          rw [efd] at hc
          refine ⟨rfl, _, _, us ++ [.ref ta], rest, rfl, F4, N4, fun _ h => h, f1, f2, hIr, by rw [List.length_append, List.length_singleton]; omega, ?_⟩
          rw [beq_eq_false_iff_ne.mpr hc]
          exact zc
    · rintro f s₇ ⟨rfl, h₇, tk₇, vs', rest', rfl, F3, N3, hsub, g1, g2, gI, hvl', zc'⟩
      clear F1 N1
      have zl' := hsub _ zl
      have hrl2 : (refs ++ [Value.ref ra]).length ≤ 1000 := by rw [List.length_append, List.length_singleton]; omega
      back_in
      rename Fr _ _ _ _ => F5
      rename News _ _ _ _ => N5
      rename Below _ ((_, lst []) :: _) => b2
      rename Below _ ((I, _) :: _) => b1
      obtain ⟨D1, D2, t', N5, b1, b2⟩ : ∃ D1 D2 t', News h₀ L _ ((D2, lst [.str (leadAt (k % 10 - 6).toNat) t', .ref D1]) :: (D1, lst []) :: (I, o) :: (R, lst (refs ++ [.ref ra] ++ [.ref D2]) (nR + 1)) :: (pa, lst vs' np) :: (ra, lst [.str st.2.1 tl, .ref pa] na) :: rest') ∧
        Below D1 ((I, o) :: (R, lst (refs ++ [.ref ra]) nR) :: (pa, lst vs' np) :: (ra, lst [.str st.2.1 tl, .ref pa] na) :: rest') ∧
        Below D2 ((D1, lst []) :: (I, o) :: (R, lst (refs ++ [.ref ra]) nR) :: (pa, lst vs' np) :: (ra, lst [.str st.2.1 tl, .ref pa] na) :: rest') := ⟨_, _, _, N5, b1, b2⟩
      have up : ∀ p, p ∈ rest' → p ∈ (pa, lst vs' np) :: (ra, lst [.str st.2.1 tl, .ref pa] na) :: rest' := fun p hp => .tail _ (.tail _ hp)
      refine hP _ _ m₂ ((R, lst (refs ++ [.ref ra] ++ [.ref D2]) (nR + 1)) :: (D1, lst []) :: (D2, lst [.str (leadAt (k % 10 - 6).toNat) t', .ref D1]) :: (pa, lst vs' np) :: (ra, lst [.str st.2.1 tl, .ref pa] na) :: rest')
        (refs ++ [.ref ra]) (nR + 1) D2 D1 t' 0 [] 0 ((pa, lst vs' np) :: (ra, lst [.str st.2.1 tl, .ref pa] na) :: rest') F5 (News.sub N5 fun p hp => ?_) (fun q hq => ?_)
        ⟨rfl, Ne.symm (Below.gt b1 (.tail _ (.head _))), Below.gt b2 (.tail _ (.tail _ (.head _))), Below.gt b2 (.head _), fun p hp => ?_, fun p hp => Below.ne b1 p (.tail _ (.tail _ hp)), up _ (hsub _ zw), (zwa.mono fun _ _ => PairBy.mono fun a o h => up _ (hsub _ h)), up _ zl', zla,
          (zd.mono fun _ _ => RowBy.mono fun a o h => up _ (hsub _ h)).app (.one ⟨ra, na, tl, pa, vs', np, rfl, .tail _ (.head _), .head _, zc'.mono fun _ _ => PairBy.mono fun a o h => up _ h⟩), .nil⟩ ⟨mr, mw, ml, mt⟩
      · rcases List.mem_cons.mp hp with rfl | hp
        · exact .tail _ (.tail _ (.head _))
        rcases List.mem_cons.mp hp with rfl | hp
        · exact .tail _ (.tail _ (.tail _ (.head _)))
        rcases List.mem_cons.mp hp with rfl | hp
        · exact .tail _ (.head _)
        rcases List.mem_cons.mp hp with rfl | hp
        · exact .head _
        · exact .tail _ (.tail _ (.tail _ (.tail _ hp)))
      · rcases List.mem_cons.mp hq with rfl | hq
        · exact hRI
        rcases List.mem_cons.mp hq with rfl | hq
        · exact Below.gt b1 (.head _)
        rcases List.mem_cons.mp hq with rfl | hq
        · exact Below.gt b2 (.tail _ (.head _))
        rcases List.mem_cons.mp hq with rfl | hq
        · exact hpI
        rcases List.mem_cons.mp hq with rfl | hq
        · exact hrI
        · exact gI q hq
      · rcases List.mem_cons.mp hp with rfl | hp
        · exact Ne.symm d1
        rcases List.mem_cons.mp hp with rfl | hp
        · exact d2
        · exact g1 p hp
end
section
set_option pp.maxSteps 3000 in
set_option maxHeartbeats 8000000 in
theorem rows_end : ∀ {w : World} {A : Around} {s : Shared} {h₀ : Heap} {mg mb : Str → Option Value} {L R WL LL ra pa : Addr} {m : Str → Option Value} {news rest : List (Addr × Obj)} {refs vs wv lv : List Value} {nR na np nw nl : Nat} {tl tt : Tok} {total : Int} {st : List PRow × PRow} {P : Flow → Shared → Prop}
    {name qual : Str} {params : Arguments} {body : List Stmt} {scope : Scope} {dV kV doc pm cdv ct oc : Value} {an od : Option Addr} {osl : Array (Option Value)}
    (ho : (hd.heap_39 w.params).lookup 95 = some ⟨oc, od, .func (fnOf name qual params body scope dV kV doc pm an cdv ct), osl⟩)
    (X₀ : (hd.heap_39 w.params).In h₀) (T₀ : TR mg mb h₀) (hroom : A.depth + 3 < recursionLimit) (F : Fr h₀ L s.heap m) (N : News h₀ L s.heap news)
    (Z : RowsLed news R WL LL st refs nR ra pa tl na vs np wv nw lv nl rest) (hvl : vs.length ≤ 900) (hm : Rows7 m R WL LL total tt)
    (hP : ∀ h' tk m' led, Fr h₀ L h' m' → News h₀ L h' led → RowsBy (InL led) R (st.1 ++ [(st.2.1, bareIf (total % 2 == 0) st.2.2)]) → P (.ret (.ref R)) { s with heap := h', toks := tk }),
    wpAny (model PySem.Challenge.rw_sc0019_01.prog w) (A.deeper (envOf qual scope L 95 cdv)) (execs (body.drop 4) (envOf qual scope L 95 cdv)) P (fun _ _ => False) s := by
  k_fill
  intro w A s h₀ mg mb L R WL LL ra pa m news rest refs vs wv lv nR na np nw nl tl tt total st P name qual params body scope dV kV doc pm cdv ct oc an od osl ho X₀ T₀ hroom F N Z hvl hm hP
  obtain ⟨rfl, rfl, rfl, rfl⟩ := fn_inj ho (by k_is)
  dsimp only [List.drop]
  obtain ⟨mr, mw, ml, mt⟩ := hm
  obtain ⟨rfl, d1, d2, d3, f1, f2, zw, zwa, zl, zla, zd, zc⟩ := Z
  clear ho
  have efd : total.fmod 2 = total % 2 := Int.fmod_eq_emod_of_nonneg _ (by decide)
  refine wpAny_execs_cons ?_
  refine endd (E := fun _ _ => False) (fun f s' => f = .next ∧ ∃ h' tk vs' rest', s' = { s with heap := h', toks := tk } ∧ Fr h₀ L h' m ∧ News h₀ L h' ((R, lst (refs ++ [.ref ra]) nR) :: (pa, lst vs' np) :: (ra, lst [.str st.2.1 tl, .ref pa] na) :: rest') ∧ (∀ p ∈ rest, p ∈ rest') ∧
      All2 (PairBy (InL rest')) vs' (bareIf (total % 2 == 0) st.2.2)) ?_ (fun _ _ h => h) ?_
  · rcases zc.snoc_or with ⟨ev, ec⟩ | ⟨us, v, cs, c, ev, ec, zcs, ta, nt, t1, t2, rfl, zta⟩
    · subst ev
      walk1
      (try dsimp only)
      back_in
      all_goals (rename Fr _ _ _ _ => F4)
      all_goals (rename News _ _ _ _ => N4)
      all_goals exact ⟨rfl, _, _, [], rest, rfl, F4, N4, fun _ h => h, by rw [ec, bareIf_nil]; exact .nil⟩
    · subst ev
      rw [List.length_append, List.length_singleton] at hvl
      walk1
      (try dsimp only)
      back_in
      · rename Fr _ _ _ _ => F4
        rename News _ _ _ _ => N4
        rename Int.fmod _ _ = 0 => hc
        rw [efd] at hc
        obtain ⟨tb, tkb, N4⟩ : ∃ tb tkb, News h₀ L _ ((tb, tupO [.str c.1 t1, .str (Str.ofString "") tkb]) :: (R, lst (refs ++ [.ref ra]) nR) :: (pa, lst (us ++ [.ref tb]) np) :: (ra, lst [.str st.2.1 tl, .ref pa] na) :: rest) := ⟨_, _, N4⟩
        refine ⟨rfl, _, _, us ++ [.ref tb], (tb, tupO [.str c.1 t1, .str (Str.ofString "") tkb]) :: rest, rfl, F4, News.sub N4 (fun p hp => ?_), fun _ h => .tail _ h, ?_⟩
        · rcases List.mem_cons.mp hp with rfl | hp
          · exact .tail _ (.head _)
          rcases List.mem_cons.mp hp with rfl | hp
          · exact .tail _ (.tail _ (.head _))
          rcases List.mem_cons.mp hp with rfl | hp
          · exact .tail _ (.tail _ (.tail _ (.head _)))
          rcases List.mem_cons.mp hp with rfl | hp
          · exact .head _
          · exact .tail _ (.tail _ (.tail _ (.tail _ hp)))
        · rw [ec, beq_iff_eq.mpr hc]
          show All2 _ _ (bareP (cs ++ [c]))
          rw [bareP_snoc]
          exact (zcs.mono fun _ _ => PairBy.mono fun _ _ h => .tail _ h).app (.one ⟨_, _, _, _, rfl, .head _⟩)
      · rename Fr _ _ _ _ => F4
        rename News _ _ _ _ => N4
        rename Int.fmod _ _ ≠ 0 => hc
        rw [efd] at hc
        refine ⟨rfl, _, _, us ++ [.ref ta], rest, rfl, F4, N4, fun _ h => h, ?_⟩
        rw [beq_eq_false_iff_ne.mpr hc]
        exact zc
  · rintro f s₇ ⟨rfl, h₇, tk₇, vs', rest', rfl, F3, N3, hsub, zc'⟩
    clear F N
    back_in
    have up : ∀ a o, InL rest' a o → InL ((R, lst (refs ++ [.ref ra]) nR) :: (pa, lst vs' np) :: (ra, lst [.str st.2.1 tl, .ref pa] na) :: rest') a o := fun a o h => .tail _ (.tail _ (.tail _ h))
    refine hP _ _ _ _ F3 N3 ⟨_, _, .head _, ?_⟩
    exact (zd.mono fun _ _ => RowBy.mono fun a o h => up _ _ (hsub _ h)).app (.one ⟨ra, na, tl, pa, vs', np, rfl, .tail _ (.tail _ (.head _)), .tail _ (.head _), zc'.mono fun _ _ => PairBy.mono up⟩)
end
section
theorem rows_len {st : List PRow × PRow} {k : Nat} (h : StOk k st) : st.1.length ≤ k ∧ st.2.2.length ≤ k := by
  have hc := h.count
  have : ∀ l : List PRow, l.length ≤ tally l := by
    intro l
    induction l with
    | nil => exact Nat.le_refl _
    | cons a r ih =>
      have e : tally (a :: r) = (a.2.length + 1) + tally r := by unfold tally; rw [List.map_cons, List.sum_cons]
      rw [List.length_cons, e]; omega
  have := this st.1
  omega
set_option pp.maxSteps 3000 in
set_option maxHeartbeats 8000000 in
theorem rows_loop : ∀ {w : World} {A : Around} {s : Shared} {h₀ : Heap} {mg mb : Str → Option Value} {L R WL LL ra pa da : Addr} {m : Str → Option Value} {news rest : List (Addr × Obj)} {refs vs wv lv dv : List Value} {deal : List Int} {nR na np nw nl : Nat} {tl tt : Tok} {total : Int} {P : Flow → Shared → Prop}
    {name qual : Str} {params : Arguments} {body : List Stmt} {scope : Scope} {dV kV doc pm cdv ct oc : Value} {an od : Option Addr} {osl : Array (Option Value)}
    (ho : (hd.heap_39 w.params).lookup 95 = some ⟨oc, od, .func (fnOf name qual params body scope dV kV doc pm an cdv ct), osl⟩)
    (X₀ : (hd.heap_39 w.params).In h₀) (T₀ : TR mg mb h₀) (hroom : A.depth + 3 < recursionLimit) (hh : A.handled = none) (F : Fr h₀ L s.heap m) (N : News h₀ L s.heap news)
    (Z : RowsLed news R WL LL ([], (Str.ofString "", [])) refs nR ra pa tl na vs np wv nw lv nl rest) (hm : Rows7 m R WL LL total tt) (md : m (Str.ofString "deal") = some (.ref da))
    (hd : h₀.IsList da dv.toArray) (hi : IntsAre dv deal) (hl : deal.length ≤ 100)
    (hP : ∀ h' tk m' news' refs' nR' ra' pa' tl' na' vs' np' rest', Fr h₀ L h' m' → News h₀ L h' news' → RowsLed news' R WL LL (rowsFold deal) refs' nR' ra' pa' tl' na' vs' np' wv nw lv nl rest' → vs'.length ≤ 900 → Rows7 m' R WL LL total tt →
      P .next { s with heap := h', toks := tk }),
    wpAny (model PySem.Challenge.rw_sc0019_01.prog w) (A.deeper (envOf qual scope L 95 cdv)) (exec (nthS body 3) (envOf qual scope L 95 cdv)) P (fun _ _ => False) s := by
  k_fill
  intro w A s h₀ mg mb L R WL LL ra pa da m news rest refs vs wv lv dv deal nR na np nw nl tl tt total P name qual params body scope dV kV doc pm cdv ct oc an od osl ho X₀ T₀ hroom hh F N Z hm md hd hi hl hP
  have turn := @rows_turn w A
  obtain ⟨rfl, rfl, rfl, rfl⟩ := fn_inj ho (by k_is)
  dsimp only [nthS]
  refine For_list (h₀ := h₀) (items := dv.toArray) (kept := []) (fun i m news => ∃ refs nR ra pa tl na vs np rest, RowsLed news R WL LL (rowsFold (deal.take i)) refs nR ra pa tl na vs np wv nw lv nl rest ∧ Rows7 m R WL LL total tt) hh (fun _ _ _ _ p hp => nomatch hp) ?_ ?_ ?_
  · refine endv ?_
    back_in
    exact ⟨_, _, _, _, _, rfl, rfl, F, N, (by obtain ⟨o, e, r⟩ := hd; exact ⟨o, F.keep _ _ e, r⟩), .inl (by obtain ⟨o, e, _⟩ := hd; exact ⟨o, e⟩), refs, nR, ra, pa, tl, na, vs, np, rest, Z, hm⟩
  · rintro i v m₁ news₁ h₁ tk₁ I o hv ⟨refs, nR, ra, pa, tl, na, vs, np, rest, Z, hm⟩ F₁ N₁ hdis
    obtain ⟨k, t, rfl, hk⟩ := hi.at i v (by simpa using hv)
    have hst : rowsFold (deal.take (i + 1)) = rowsStep (rowsFold (deal.take i)) k := by unfold rowsFold; exact fold_take _ _ _ _ hk
    have hlen := rows_len (rowsFold_ok (deal.take i))
    have htl : (deal.take i).length ≤ 100 := by rw [List.length_take]; omega
    have hrl : refs.length ≤ 900 := by rw [Z.done.length]; omega
    have hvl : vs.length ≤ 900 := by rw [Z.cur.length]; omega
    obtain ⟨mr, mw, ml, mt⟩ := hm
    walk1
    (try dsimp only)
    walk1
    (try dsimp only)
    rename Fr _ _ _ _ => F7
    rename News _ _ _ _ => N7
    refine turn (s := ⟨_, s.gens, s.drawn, _, s.os⟩) ho X₀ T₀ hroom F7 N7 (fun q hq => hdis _ (List.mem_singleton.mpr rfl) q hq) Z hrl hvl ⟨by ktr_rel, by ktr_rel, by ktr_rel, by ktr_rel⟩ get_here ?_
    rintro h' tk m' news' refs' nR' ra' pa' tl' na' vs' np' rest' F N hI' Z' hm'
    rw [← hst] at Z'
    refine Turned.next F N (fun p hp q hq => ?_) ⟨_, _, _, _, _, _, _, _, _, Z', hm'⟩
    rw [List.mem_singleton.mp hp]; exact hI' q hq
  · rintro m' news' h' tk ⟨refs, nR, ra, pa, tl, na, vs, np, rest, Z, hm⟩ F₁ N₁
    have hds : dv.toArray.size = deal.length := by rw [List.size_toArray, hi.length]
    rw [hds, List.take_length] at Z
    have hlen := rows_len (rowsFold_ok deal)
    exact hP _ _ _ _ _ _ _ _ _ _ _ _ _ F₁ N₁ Z (by rw [Z.cur.length]; omega) hm
end
section
set_option pp.maxSteps 3000 in
set_option maxHeartbeats 8000000 in
theorem code_rows : ∀ {w : World} {A : Around} {s : Shared} {mg mb : Str → Option Value} {da : Addr} {dv : List Value} {deal : List Int} {total : Int} {tt : Tok} {R : Result → Shared → Prop}
    (X : (hd.heap_39 w.params).In s.heap) (T : TR mg mb s.heap) (hroom : A.depth + 3 < recursionLimit) (hh : A.handled = none) (hd : s.heap.IsList da dv.toArray) (hi : IntsAre dv deal) (hl : deal.length ≤ 100)
    (hR : ∀ h' tk r led, s.heap.StaysIn h' → (∀ p ∈ led, h'.get? p.1 = some p.2 ∧ s.heap.get? p.1 = none) → RowsBy (InL led) r (rowsOf deal total) → R (.ok (.ret (.ref r))) { s with heap := h', toks := tk }),
   codeAny (model PySem.Challenge.rw_sc0019_01.prog w) A (.call (.ref 95) ⟨[.ref da, .int total tt], []⟩) R s := by
  k_fill
  intro w A s mg mb da dv deal total tt R X T hroom hh hd hi hl hR
  have loop := @rows_loop w A
  have fin := @rows_end w A
  refine enter (news := []) X T (fun _ h => nomatch h) (by k_is) (by k_is) (by omega) (BindsTo.of_eq rfl) (locs rfl) (fun L h₁ F N => ?_)
  change Fr s.heap L h₁ (mp [(Str.ofString "total", .int total tt), (Str.ofString "deal", .ref da)]) at F
  change News s.heap L h₁ [] at N
  ktr_unf
  rename Fr _ _ _ _ => F1
  rename News _ _ _ _ => N1
  rename Below _ ((_, lst [_, _]) :: _) => b0
  rename Below _ ((_, lst []) :: _) => b1
  rename Below _ ((_, lst [_, _, _, _]) :: _) => b2
  obtain ⟨r, ra, pa, rest, t, m', N1, b0, b1, b2, F1, WL, wv, LL, lv, zw, zwa, zl, zla, hm, md⟩ : ∃ r ra pa rest t m', News s.heap L _ ((r, lst [.ref ra]) :: (ra, lst [.str (Str.ofString "") t, .ref pa]) :: (pa, lst []) :: rest) ∧
      Below r ((ra, lst [.str (Str.ofString "") t, .ref pa]) :: (pa, lst []) :: rest) ∧ Below ra ((pa, lst []) :: rest) ∧ Below pa rest ∧ Fr s.heap L _ m' ∧
      ∃ WL wv LL lv, (WL, lst wv) ∈ rest ∧ All2 (PairBy (InL rest)) wv lawWords ∧ (LL, lst lv) ∈ rest ∧ StrsAre lv lawLeads ∧ Rows7 m' r WL LL total tt ∧ m' (Str.ofString "deal") = some (.ref da) := by
    refine ⟨_, _, _, _, _, _, N1, b0, b1, b2, F1, _, _, _, _, .tail _ (.head _), ?_, .head _, ?_, ⟨by ktr_rel, by ktr_rel, by ktr_rel, rfl⟩, rfl⟩
    · refine .cons ⟨_, _, _, _, rfl, by apart_at⟩ (.cons ⟨_, _, _, _, rfl, by apart_at⟩ (.cons ⟨_, _, _, _, rfl, by apart_at⟩ (.cons ⟨_, _, _, _, rfl, by apart_at⟩ (.cons ⟨_, _, _, _, rfl, by apart_at⟩ (.cons ⟨_, _, _, _, rfl, by apart_at⟩ .nil)))))
    · exact .cons _ _ (.cons _ _ (.cons _ _ (.cons _ _ .nil)))
  refine loop (s := ⟨_, s.gens, s.drawn, _, s.os⟩) (by k_is) X T hroom hh F1 (News.sub N1 (news' := (r, lst ([] ++ [.ref ra])) :: (pa, lst []) :: (ra, lst [.str (Str.ofString "") t, .ref pa]) :: rest) fun p hp => ?_)
    ⟨rfl, Below.gt b0 (.tail _ (.head _)), Ne.symm (Below.gt b0 (.head _)), Below.gt b1 (.head _), fun p hp => Below.ne b0 p (.tail _ (.tail _ hp)), fun p hp => Below.ne b2 p hp, zw, zwa, zl, zla, .nil, .nil⟩ hm md hd hi hl ?_
  · rcases List.mem_cons.mp hp with rfl | hp
    · exact .head _
    rcases List.mem_cons.mp hp with rfl | hp
    · exact .tail _ (.tail _ (.head _))
    rcases List.mem_cons.mp hp with rfl | hp
    · exact .tail _ (.head _)
    · exact .tail _ (.tail _ (.tail _ hp))
  rintro h' tk m' news' refs' nR' ra' pa' tl' na' vs' np' rest' F N Z hvl hm
  refine fin (s := ⟨_, s.gens, s.drawn, _, s.os⟩) (by k_is) X T hroom F N Z hvl hm ?_
  rintro h' tk m' led F N hrows
  exact hR _ _ _ led F.keep (fun p hp => ⟨(N p hp).1, (N p hp).2.2⟩) hrows
end
section
local macro_rules | `(tactic| walk_at "subscriptTail Name Slice ref ref") => `(tactic| k_dflt (refine w_uptoB (by k_asm) (by k_asm) (by assumption) (by ktr_room) (fun D' h' F' N' l' => ?_)))
local macro_rules | `(tactic| walk_at "call type:list") => `(tactic| k_dflt (refine w_listof (by k_asm) (by k_asm) (by apart_at) (by ktr_room) (fun D' c' h' F' N' l' => ?_)))
local macro_rules | `(tactic| walk_at "call builtin:len") => `(tactic| k_dflt (refine w_lenB (by k_asm) (by assumption) (by ktr_room) (fun t' k' => ?_)))
local macro_rules | `(tactic| walk_at "subscriptTail Name Name ref int") => `(tactic| k_dflt (refine w_itemB (by k_asm) (by assumption) (by assumption) (by omega) (by omega) (by ktr_room) (fun t' => ?_)))
local macro_rules | `(tactic| walk_at "subscriptTail Name BinOp ref int") => `(tactic| k_dflt (refine w_itemI (by frow_left) (by assumption) (by assumption) (by omega) (by ktr_room) (fun t' => ?_)))
local macro_rules | `(tactic| walk_at "setItem ref int") => `(tactic| k_dflt (refine w_setat' (by k_asm) (by k_asm) (by apart_at) (by omega) (by omega) (by ktr_room) (by fresh_at) (fun h' F' N' => ?_)))
set_option pp.maxSteps 3000 in
set_option maxHeartbeats 8000000 in
theorem code_deal : ∀ {w : World} {A : Around} {s : Shared} {mg mb : Str → Option Value} {sa : Addr} {sv : List Value} {script : List Int} {q : Nat} {tq : Tok} {R : Result → Shared → Prop}
    (X : (hd.heap_39 w.params).In s.heap) (T : TR mg mb s.heap) (hroom : A.depth < recursionLimit) (hh : A.handled = none) (hd : s.heap.IsList sa sv.toArray) (hi : IntsAre sv script) (hl : script.length ≤ 1000) (hq0 : 1 ≤ q) (hq : q ≤ 1000)
    (hR : ∀ h' tk d dv n deal, s.heap.StaysIn h' → h'.get? d = some (lst dv n) → s.heap.get? d = none → IntsAre dv deal → deal.length ≤ q → R (.ok (.ret (.ref d))) { s with heap := h', toks := tk }),
   codeAny (model PySem.Challenge.rw_sc0019_01.prog w) A (.call (.ref 81) ⟨[.ref sa, .int (q : Int) tq], []⟩) R s := by
  k_fill
  intro w A s mg mb sa sv script q tq R X T hroom hh hd hi hl hq0 hq hR
  refine enter (news := []) X T (fun _ h => nomatch h) (by k_is) (by k_is) hroom (BindsTo.of_eq rfl) (locs rfl) (fun L h₁ F N => ?_)
  change Fr s.heap L h₁ (mp [(Str.ofString "most", .int (q : Int) tq), (Str.ofString "script", .ref sa)]) at F
  change News s.heap L h₁ [] at N
  have hsl : sv.length = script.length := hi.length
  ktr_unf
  rename Fr _ _ _ _ => F1
  rename News _ _ _ _ => N1
  obtain ⟨D, c, m', N1, F1, ms, mm, md⟩ : ∃ D c m', News s.heap L _ [(D, lst (sv.take q) c)] ∧ Fr s.heap L _ m' ∧ m' (Str.ofString "script") = some (.ref sa) ∧ m' (Str.ofString "most") = some (.int (q : Int) tq) ∧ m' (Str.ofString "deal") = some (.ref D) :=
    ⟨_, _, _, News.sub N1 (fun p hp => by rw [List.mem_singleton.mp hp]; exact .head _), F1, rfl, rfl, rfl⟩
  refine For_range (h₀ := s.heap) (n := sv.length - q) (a := (q : Int)) (b := (sv.length : Int)) (c := 1) (fun i m news => ∃ dv n deal, news = [(D, lst dv n)] ∧ IntsAre dv deal ∧ deal.length = min q script.length ∧ m (Str.ofString "script") = some (.ref sa) ∧ m (Str.ofString "most") = some (.int (q : Int) tq) ∧ m (Str.ofString "deal") = some (.ref D))
    hh (small_one (by omega) (by omega)) (size_one _ _) ?_ ?_ ?_
  · refine endv ?_
    ktr_unf
    rename Fr _ _ _ _ => F8
    rename News _ _ _ _ => N8
    exact ⟨_, _, _, _, _, _, _, _, rfl, rfl, F8, N8, by assumption, _, _, script.take q, rfl, IntsAre.take (by assumption) q, List.length_take, ms, mm, md⟩
  · rintro i t m₁ news₁ h₁ tk₁ I o hi' ⟨dv, n, deal, rfl, hdv, hdl, ms, mm, md⟩ F₁ N₁ hdis
    have hDI : D ≠ I := hdis _ (List.mem_singleton.mpr rfl) (D, lst dv n) (.head _)
    have hdl' : deal.length = q := by omega
    have hdvl : dv.length = q := by rw [hdv.length]; exact hdl'
    have e1 : ((q : Int) + (i : Int) * 1) = ((q + i : Nat) : Int) := by omega
    rw [e1]
    have e2 : ((q + i : Nat) : Int).fmod (q : Int) = (((q + i) % q : Nat) : Int) := by rw [Int.fmod_eq_emod_of_nonneg _ (by omega)]; omega
    obtain ⟨j, hj⟩ : ∃ j, j = (q + i) % q := ⟨_, rfl⟩
    have e3 : j < q := hj ▸ Nat.mod_lt _ (by omega)
    rw [← hj] at e2
    clear hj
    have F₁' : Fr s.heap L h₁ m₁ := F₁
    have N₁' : News s.heap L h₁ [(I, o), (D, lst dv n)] := N₁
    clear F₁ N₁
    iterate 12 (walk1; (try dsimp only))
    rw [e2]
    iterate 6 (walk1; (try dsimp only))
    iterate 5 (walk1; (try dsimp only))
    rw [e2]
    refine w_setat' (by k_asm) (by k_asm) (by apart_at) (by omega) (by omega) (by ktr_room) (by fresh_at) (fun h' F' N' => ?_)
    ktr_unf
    rename Fr _ _ _ _ => F8
    rename News _ _ _ _ => N8
    refine Turned.next F8 (news₂ := [(D, _)]) N8 (fun p hp z hz => ?_) ⟨_, _, _, rfl, intsAre_set hdv _ _ _, by rw [List.length_set]; exact hdl, by ktr_rel, by ktr_rel, by ktr_rel⟩
    rw [List.mem_singleton.mp hp, List.mem_singleton.mp hz]
    exact hDI
  · rintro m' news' h' tk ⟨dv, n, deal, rfl, hdv, hdl, ms, mm, md⟩ F₁ N₁
    ktr_unf
    exact hR _ _ _ _ _ _ F₁.keep (N₁ _ (.head _)).1 (N₁ _ (.head _)).2.2 hdv (by omega)
end
section
local macro_rules | `(tactic| walk_at "call builtin:len") => `(tactic| k_dflt (refine w_lenH (by frow_left) (by ktr_room) (fun t' k' => ?_)))
set_option pp.maxSteps 3000 in
set_option maxHeartbeats 8000000 in
theorem filled_full : ∀ {w : World} {A : Around} {s : Shared} {h₀ : Heap} {mg mb : Str → Option Value} {L R : Addr} {m : Str → Option Value} {news : List (Addr × Obj)} {oc : Obj} {rows : List PRow} {P : Flow → Shared → Prop}
    {name qual : Str} {params : Arguments} {body : List Stmt} {scope : Scope} {dV kV doc pm cdv ct ow : Value} {an od : Option Addr} {osl : Array (Option Value)}
    (ho : (hd.heap_39 w.params).lookup 100 = some ⟨ow, od, .func (fnOf name qual params body scope dV kV doc pm an cdv ct), osl⟩)
    (X₀ : (hd.heap_39 w.params).In h₀) (T₀ : TR mg mb h₀) (hh : A.handled = none) (F : Fr h₀ L s.heap m) (N : News h₀ L s.heap news) (hc : (L + 1, oc) ∈ news) (hcd : oc.data = .cell (some (.ref R)))
    (hR : RowsBy (InH h₀) R rows) (hrl : rows.length ≤ 1000) (hpl : ∀ r ∈ rows, r.2.length ≤ 1000)
    (hP : ∀ h' tk D fv n, Fr h₀ L h' (fun z => if z = Str.ofString "full" then some (.ref D) else m z) → News h₀ L h' ((D, lst fv n) :: news) → IntsAre fv (asInts (fullOf rows)) → P .next { s with heap := h', toks := tk }),
    wpAny (model PySem.Challenge.rw_sc0019_01.prog w) (A.deeper (envOfC qual scope L 100 cdv)) (exec (nthS body 0) (envOfC qual scope L 100 cdv)) P (fun _ _ => False) s := by
  k_fill
  intro w A s h₀ mg mb L R m news oc rows P name qual params body scope dV kV doc pm cdv ct ow an od osl ho X₀ T₀ hh F N hc hcd hR hrl hpl hP
  obtain ⟨rfl, rfl, rfl, rfl⟩ := fn_inj ho (by k_is)
  dsimp only [nthS]
  clear ho
  obtain ⟨vs, nr, hRv, hvs⟩ := hR
  have hRv' : h₀.get? R = some (lst vs nr) := hRv
  have hvl : vs.length = rows.length := hvs.length
  refine LCt.Assign_ListComp_T (F₀ := F) (by rfl) (by with_unfolding_all rfl) (by with_unfolding_all rfl) (by decide) (by rfl) (by decide) (by rfl) (by rfl) (by rfl) ?_
  refine endv ?_
  back_in
  rename IsRange _ _ _ _ _ _ _ _ => hr
  rename Fr _ _ _ _ => F1
  rename News _ _ _ _ => N1
  refine LCt.CompSrcT.range (n := vs.length) hh F1 N1 hr (small_one (a := 0) (by omega) (by omega)) (size_one 0 vs.length) (by rw [sizeLine_eq]; omega) (fun g => ?_)
  refine rest_T (List.range rows.length) (hasWords rows) (fun v b => ∃ t, v = .int (b : Int) t) trivial ?_ ?_ ?_ vs.length 0 [] (by rw [List.length_range]; omega) .nil
  · intro i b v I oI C oC D m₂ h tk E' ys hb hPv hC hx F2 N2
    obtain ⟨t, rfl⟩ := hPv
    have hil : i < rows.length := by
      have := (List.getElem?_eq_some_iff.mp hb).1
      simpa using this
    have hbi : b = i := by rw [List.getElem?_range hil] at hb; exact (Option.some.inj hb).symm
    subst hbi
    have er : rows[b]? = some rows[b] := List.getElem?_eq_getElem hil
    obtain ⟨v, hv, a, n, t1, pa, ps, k, rfl, ha, hpa, hps⟩ := hvs.get er
    have hv' : vs[(0 + (b : Int)).toNat]? = some (.ref a) := by rw [show (0 + (b : Int)).toNat = b by omega]; exact hv
    have hpsl : ps.length ≤ 1000 := by rw [hps.length]; exact hpl _ (List.getElem_mem _)
    have e2 : (!ps.isEmpty) = hasWords rows b := by
      unfold hasWords
      rw [List.getD_eq_getElem?_getD, er]
      show (!ps.isEmpty) = !(rows[b]).2.isEmpty
      have := hps.length
      cases ps <;> cases hq : (rows[b]).2 <;> simp_all
    have ha' : h₀.get? a = some (lst [.str (rows[b]).1 t1, .ref pa] n) := ha
    have hpa' : h₀.get? pa = some (lst ps k) := hpa
    walk1
    (try dsimp only)
    back_in
    exact ⟨_, _, rfl, fun _ _ e => e⟩
  · intro i b v I oI C oC D m₂ h tk E' ys hb hPv hp hC hx F2 N2
    obtain ⟨t, rfl⟩ := hPv
    have hil : i < rows.length := by
      have := (List.getElem?_eq_some_iff.mp hb).1
      simpa using this
    have hbi : b = i := by rw [List.getElem?_range hil] at hb; exact (Option.some.inj hb).symm
    subst hbi
    refine endv ?_
    walk1
    exact ⟨⟨t, by rw [Int.zero_add]⟩, _, _, rfl, fun _ _ e => e⟩
  · intro ys hy D h tk F3 N3 o1
    exact hP _ _ D ys _ F3 N3 (ints_of_all2 hy)
end
section
local macro_rules | `(tactic| walk_at "compareOp In int ref") => `(tactic| k_dflt (refine w_inints (by frow_left) (by assumption) ?_))
set_option pp.maxSteps 3000 in
set_option maxHeartbeats 8000000 in
theorem filled_while : ∀ {w : World} {A : Around} {s : Shared} {h₀ : Heap} {mg mb : Str → Option Value} {L D : Addr} {m : Str → Option Value} {news : List (Addr × Obj)} {fv : List Value} {n : Nat} {t : Tok} {rows : List PRow} {P : Flow → Shared → Prop}
    {name qual : Str} {params : Arguments} {body : List Stmt} {scope : Scope} {dV kV doc pm cdv ct ow : Value} {an od : Option Addr} {osl : Array (Option Value)}
    (ho : (hd.heap_39 w.params).lookup 100 = some ⟨ow, od, .func (fnOf name qual params body scope dV kV doc pm an cdv ct), osl⟩)
    (X₀ : (hd.heap_39 w.params).In h₀) (T₀ : TR mg mb h₀) (hh : A.handled = none) (F : Fr h₀ L s.heap m) (N : News h₀ L s.heap news) (hD : (D, lst fv n) ∈ news) (hfv : IntsAre fv (asInts (fullOf rows)))
    (hrl : rows.length ≤ 1000) (mf : m (Str.ofString "full") = some (.ref D)) (ml : m (Str.ofString "last") = some (.int (bareRows rows : Int) t))
    (hP : ∀ h' tk m' t', Fr h₀ L h' m' → News h₀ L h' news → m' (Str.ofString "last") = some (.int ((bareRows rows + (runRows rows).length : Nat) : Int) t') → (∀ z, z ≠ Str.ofString "last" → m' z = m z) → P .next { s with heap := h', toks := tk }),
    wpAny (model PySem.Challenge.rw_sc0019_01.prog w) (A.deeper (envOfC qual scope L 100 cdv)) (exec (nthS body 4) (envOfC qual scope L 100 cdv)) P (fun _ _ => False) s := by
  k_fill
  intro w A s h₀ mg mb L D m news fv n t rows P name qual params body scope dV kV doc pm cdv ct ow an od osl ho X₀ T₀ hh F N hD hfv hrl mf ml hP
  obtain ⟨rfl, rfl, rfl, rfl⟩ := fn_inj ho (by k_is)
  dsimp only [nthS]
  clear ho
  have hb := bare_lt (rows := rows)
  refine While_inv (fun k m' news' => ∃ j t', k = rows.length - (bareRows rows + j) ∧ bareRows rows + j ≤ rows.length ∧ (∀ i, i < j → bareRows rows + i < rows.length ∧ hasWords rows (bareRows rows + i) = true) ∧ m' (Str.ofString "last") = some (.int ((bareRows rows + j : Nat) : Int) t') ∧ (∀ z, z ≠ Str.ofString "last" → m' z = m z) ∧ news' = news)
    (n₀ := rows.length - bareRows rows) F N ⟨0, t, rfl, hb.2.2, fun i hi => absurd hi (Nat.not_lt_zero _), ml, fun _ _ => rfl, rfl⟩ ?_ PassesOwn.never
  rintro k m₁ news₁ h₁ tk₁ F₁ N₁ ⟨j, t', rfl, hj, hw, ml, hm, rfl⟩
  have mf : m₁ (Str.ofString "full") = some (.ref D) := (hm _ (by decide)).trans mf
  have hex := @any_full rows (bareRows rows + j)
  ktr_unf
  · rename List.any _ _ = true => hin
    rename Fr _ _ _ _ => F8
    rename News _ _ _ _ => N8
    obtain ⟨h1, h2⟩ := hex.mp hin
    rw [show ((bareRows rows + j : Nat) : Int) + 1 = ((bareRows rows + (j + 1) : Nat) : Int) by omega] at F8
    refine WhileStep.intro F8 N8 (n' := rows.length - (bareRows rows + (j + 1))) (by omega) ⟨j + 1, _, rfl, by omega, fun i hi => ?_, get_here, fun z hz => (if_neg hz).trans (hm z hz), rfl⟩
    rcases Nat.lt_succ_iff_lt_or_eq.mp hi with q | rfl
    · exact hw i q
    · exact ⟨h1, h2⟩
  · rename List.any _ _ = false => hin
    have h2 : ¬ (bareRows rows + j < rows.length ∧ hasWords rows (bareRows rows + j) = true) := by
      intro q
      rw [hex.mpr q] at hin; cases hin
    have e := run_len hw h2
    have el : (runRows rows).length = j := by rw [e, List.length_take, List.length_drop]; omega
    exact hP _ _ _ t' F₁ N₁ (by rw [el]; exact ml) hm
end
section
local macro_rules | `(tactic| walk_at "subscriptTail Name Slice ref ref") => `(tactic| k_dflt (first | (refine w_cut (by k_asm) (by k_asm) (by frow_left) (by omega) (by omega) (by omega) (fun D' h' F' N' l' => ?_)) | (refine w_uptoH (i := 2) (by k_asm) (by k_asm) (by frow_left) (by rw [List.length_take, List.length_drop]; omega) (fun D' h' F' N' l' => ?_))))
local macro_rules | `(tactic| walk_at "call builtin:str.replace") => `(tactic| k_dflt (refine w_replace (by omega) (by omega) (by omega) (by decide) (by ktr_room) (by decide) (fun t' k' => ?_)))
set_option pp.maxSteps 3000 in
set_option maxHeartbeats 8000000 in
theorem filled_fronts : ∀ {w : World} {A : Around} {s : Shared} {h₀ : Heap} {mg mb : Str → Option Value} {L R : Addr} {m : Str → Option Value} {news : List (Addr × Obj)} {oc : Obj} {t1 t2 : Tok} {vs : List Value} {nr : Nat} {rows : List PRow} {P : Flow → Shared → Prop}
    {name qual : Str} {params : Arguments} {body : List Stmt} {scope : Scope} {dV kV doc pm cdv ct ow : Value} {an od : Option Addr} {osl : Array (Option Value)}
    (ho : (hd.heap_39 w.params).lookup 100 = some ⟨ow, od, .func (fnOf name qual params body scope dV kV doc pm an cdv ct), osl⟩)
    (X₀ : (hd.heap_39 w.params).In h₀) (T₀ : TR mg mb h₀) (hh : A.handled = none) (F : Fr h₀ L s.heap m) (N : News h₀ L s.heap news) (hc : (L + 1, oc) ∈ news) (hcd : oc.data = .cell (some (.ref R)))
    (hRv : h₀.get? R = some (lst vs nr)) (hvs : All2 (RowBy (InH h₀)) vs rows) (hrl : rows.length ≤ 1000) (hlead : ∀ r ∈ rows, r.1.length ≤ 1000)
    (mf : m (Str.ofString "first") = some (.int (bareRows rows : Int) t1)) (ml : m (Str.ofString "last") = some (.int ((bareRows rows + (runRows rows).length : Nat) : Int) t2))
    (hP : ∀ h' tk D frv n news', Fr h₀ L h' (fun z => if z = Str.ofString "fronts" then some (.ref D) else m z) → News h₀ L h' ((D, lst frv n) :: news') → (∀ p ∈ news, p ∈ news') → StrsAre frv (((runRows rows).take 2).map fun r => frontOf r.1) → P .next { s with heap := h', toks := tk }),
    wpAny (model PySem.Challenge.rw_sc0019_01.prog w) (A.deeper (envOfC qual scope L 100 cdv)) (exec (nthS body 5) (envOfC qual scope L 100 cdv)) P (fun _ _ => False) s := by
  k_fill
  intro w A s h₀ mg mb L R m news oc t1 t2 vs nr rows P name qual params body scope dV kV doc pm cdv ct ow an od osl ho X₀ T₀ hh F N hc hcd hRv hvs hrl hlead mf ml hP
  obtain ⟨rfl, rfl, rfl, rfl⟩ := fn_inj ho (by k_is)
  dsimp only [nthS]
  clear ho
  have hvl : vs.length = rows.length := hvs.length
  have hre := run_end rows
  refine LCg.Assign_ListComp_U (F₀ := F) (by rfl) (by with_unfolding_all rfl) (by with_unfolding_all rfl) (by decide) (by rfl) (by decide) (by rfl) (by rfl) (by rfl) ?_
  refine endv ?_
  back_in
  rename Fr _ _ _ _ => F1
  rename News _ _ _ _ => N1
  have hcut : All2 (RowBy (InH h₀)) (List.take 2 (List.take (bareRows rows + (runRows rows).length - bareRows rows) (List.drop (bareRows rows) vs))) ((runRows rows).take 2) := by
    have := ((hvs.drop (bareRows rows)).take (runRows rows).length).take 2
    rw [← run_take] at this
    rw [Nat.add_sub_cancel_left]
    exact this
  have hsz : (List.take 2 (List.take (bareRows rows + (runRows rows).length - bareRows rows) (List.drop (bareRows rows) vs))).toArray.size = ((runRows rows).take 2).length := by rw [List.size_toArray]; exact hcut.length
  refine LCg.CompSrc.ledger hh F1 N1 (.head _) (by rw [sizeLine_eq, hsz, List.length_take]; omega) (fun g => ?_)
  refine rest_U ((runRows rows).take 2) (fun v b => ∃ t, v = .str (frontOf b.1) t) (.inr ⟨_, .head _, rfl, _, rfl⟩) ?_ ?_ _ 0 [] (by rw [hsz]; omega) .nil
  · intro i b v I oI C oC D m₂ h tk E' ys hb hPv hC hx F2 N2
    obtain ⟨v', hv', a, n, t1, pa, ps, k, rfl, ha, hpa, hps⟩ := hcut.get hb
    have hv : v = .ref a := by
      have : (List.take 2 (List.take (bareRows rows + (runRows rows).length - bareRows rows) (List.drop (bareRows rows) vs)))[i]? = some v := by simpa using hPv
      rw [hv'] at this; exact (Option.some.inj this).symm
    subst hv
    have ha' : h₀.get? a = some (lst [.str b.1 t1, .ref pa] n) := ha
    have hbl : b.1.length ≤ 1000 := hlead b (run_mem b (List.mem_of_mem_take (List.mem_of_getElem? hb))).1
    refine endv ?_
    back_in
    exact ⟨⟨_, rfl⟩, _, _, rfl, fun _ _ e => e⟩
  · intro ys hy D h tk F3 N3 o1
    exact hP _ _ D ys _ _ F3 N3 (fun p hp => .tail _ (.tail _ hp)) (strs_of_all2 hy)
end
section
local macro_rules | `(tactic| walk_at "compareOp In str ref") => `(tactic| k_dflt (refine w_intup (by frow_left) (.cons _ _ (.cons _ _ .nil)) ?_))
local macro_rules | `(tactic| walk_at "call builtin:len") => `(tactic| k_dflt (refine w_len (by ktr_room) (fun t' k' => ?_)))
set_option pp.maxSteps 3000 in
set_option maxHeartbeats 8000000 in
theorem spans_turn : ∀ {w : World} {A : Around} {s : Shared} {h₀ : Heap} {mg mb : Str → Option Value} {L I1 I2 S : Addr} {o1 o2 : Obj} {m : Str → Option Value} {rest : List (Addr × Obj)} {svs : List Value} {n : Nat} {te tw tg : Tok} {st : Str × List (Nat × Nat)} {x g : Str} {P : Flow → Shared → Prop}
    {name qual : Str} {params : Arguments} {body : List Stmt} {scope : Scope} {dV kV doc pm cdv ct ow : Value} {an od : Option Addr} {osl : Array (Option Value)}
    (ho : (hd.heap_39 w.params).lookup 100 = some ⟨ow, od, .func (fnOf name qual params body scope dV kV doc pm an cdv ct), osl⟩)
    (X₀ : (hd.heap_39 w.params).In h₀) (T₀ : TR mg mb h₀) (F : Fr h₀ L s.heap m) (N : News h₀ L s.heap ((I2, o2) :: (I1, o1) :: (S, lst svs n) :: rest))
    (d1 : S ≠ I1) (d2 : S ≠ I2) (f1 : ∀ p ∈ rest, p.1 ≠ S) (f2 : ∀ p ∈ rest, p.1 ≠ I1) (f3 : ∀ p ∈ rest, p.1 ≠ I2) (hs : All2 (SpanBy (InL rest)) svs st.2)
    (hel : st.1.length ≤ 100000) (hxl : x.length ≤ 1000) (hsl : svs.length ≤ 1000)
    (me : m (Str.ofString "endless") = some (.str st.1 te)) (ms : m (Str.ofString "spans") = some (.ref S)) (mw : m (Str.ofString "word") = some (.str x tw)) (mg' : m (Str.ofString "gap") = some (.str g tg))
    (hP : ∀ h' tk m' svs' n' rest' te', Fr h₀ L h' m' → News h₀ L h' ((I2, o2) :: (I1, o1) :: (S, lst svs' n') :: rest') → (∀ p ∈ rest, p ∈ rest') → (∀ p ∈ rest', p.1 ≠ S) → (∀ p ∈ rest', p.1 ≠ I1) → (∀ p ∈ rest', p.1 ≠ I2) →
      All2 (SpanBy (InL rest')) svs' (spansStep st (x, g)).2 → m' (Str.ofString "endless") = some (.str (spansStep st (x, g)).1 te') → (∀ z, z ≠ Str.ofString "endless" → m' z = m z) → P .next { s with heap := h', toks := tk }),
    wpAny (model PySem.Challenge.rw_sc0019_01.prog w) (A.deeper (envOfC qual scope L 100 cdv)) (execs (loopBody (nthS (loopBody (nthS body 8)) 0)) (envOfC qual scope L 100 cdv)) P (fun _ _ => False) s := by
  k_fill
  intro w A s h₀ mg mb L I1 I2 S o1 o2 m rest svs n te tw tg st x g P name qual params body scope dV kV doc pm cdv ct ow an od osl ho X₀ T₀ F N d1 d2 f1 f2 f3 hs hel hxl hsl me ms mw mg' hP
  obtain ⟨rfl, rfl, rfl, rfl⟩ := fn_inj ho (by k_is)
  dsimp only [nthS, loopBody]
  clear ho
  have hga := gap_any g
  back_in
  all_goals (rename Fr _ _ _ _ => F8)
  all_goals (rename News _ _ _ _ => N8)
  all_goals (rename List.any _ _ = _ => hq)
  all_goals (rename Below _ ((_, tupO _) :: _) => b2)
  all_goals (rename Below _ ((I2, _) :: _) => b1)
  all_goals (
    obtain ⟨T1, T2, a1, a2, c1, c2, N8, b1, b2⟩ : ∃ T1 T2 a1 a2 c1 c2, News h₀ L _ ((T2, tupO [.str (Str.ofString "") c1, .str (Str.ofString " ") c2]) :: (T1, tupO [.int (st.1.length : Int) a1, .int ((st.1.length : Int) + (x.length : Int)) a2]) :: (I2, o2) :: (I1, o1) :: (S, lst (svs ++ [.ref T1]) (n + 1)) :: rest) ∧
      Below T1 ((I2, o2) :: (I1, o1) :: (S, lst svs n) :: rest) ∧ Below T2 ((T1, tupO [.int (st.1.length : Int) a1, .int ((st.1.length : Int) + (x.length : Int)) a2]) :: (I2, o2) :: (I1, o1) :: (S, lst (svs ++ [.ref T1]) (n + 1)) :: rest) := ⟨_, _, _, _, _, _, N8, b1, b2⟩
    rw [← Int.natCast_add] at N8 b2
    rw [hga] at hq
    refine hP _ _ _ (svs ++ [.ref T1]) (n + 1) ((T2, tupO [.str (Str.ofString "") c1, .str (Str.ofString " ") c2]) :: (T1, tupO [.int (st.1.length : Int) a1, .int ((st.1.length + x.length : Nat) : Int) a2]) :: rest) _ F8 (News.sub N8 fun p hp => ?_) (fun p hp => .tail _ (.tail _ hp)) (fun p hp => ?_) (fun p hp => ?_) (fun p hp => ?_)
      ((hs.mono fun _ _ => SpanBy.mono fun a o h => .tail _ (.tail _ h)).app (.one ⟨T1, _, _, _, rfl, .tail _ (.head _)⟩)) (by
        have e := congrArg (!·) hq
        rw [Bool.not_not] at e
        unfold spansStep
        dsimp only
        rw [e]; rfl) (fun z hz => if_neg hz)
    · rcases List.mem_cons.mp hp with rfl | hp
      · exact .tail _ (.tail _ (.head _))
      rcases List.mem_cons.mp hp with rfl | hp
      · exact .tail _ (.tail _ (.tail _ (.head _)))
      rcases List.mem_cons.mp hp with rfl | hp
      · exact .tail _ (.tail _ (.tail _ (.tail _ (.head _))))
      rcases List.mem_cons.mp hp with rfl | hp
      · exact .head _
      rcases List.mem_cons.mp hp with rfl | hp
      · exact .tail _ (.head _)
      · exact .tail _ (.tail _ (.tail _ (.tail _ (.tail _ hp))))
    · rcases List.mem_cons.mp hp with rfl | hp
      · exact Below.gt b2 (.tail _ (.tail _ (.tail _ (.head _))))
      rcases List.mem_cons.mp hp with rfl | hp
      · exact Below.gt b1 (.tail _ (.tail _ (.head _)))
      · exact f1 p hp
    · rcases List.mem_cons.mp hp with rfl | hp
      · exact Below.gt b2 (.tail _ (.tail _ (.head _)))
      rcases List.mem_cons.mp hp with rfl | hp
      · exact Below.gt b1 (.tail _ (.head _))
      · exact f2 p hp
    · rcases List.mem_cons.mp hp with rfl | hp
      · exact Below.gt b2 (.tail _ (.head _))
      rcases List.mem_cons.mp hp with rfl | hp
      · exact Below.gt b1 (.head _)
      · exact f3 p hp)
end
section
set_option pp.maxSteps 3000 in
set_option maxHeartbeats 8000000 in
theorem spans_inner : ∀ {w : World} {A : Around} {s : Shared} {h₀ : Heap} {mg mb : Str → Option Value} {L I1 S ra pa : Addr} {o1 : Obj} {m : Str → Option Value} {rest : List (Addr × Obj)} {svs ps : List Value} {n na np : Nat} {te tl : Tok} {st : Str × List (Nat × Nat)} {lead : Str} {pairs : List Pair} {P : Flow → Shared → Prop}
    {name qual : Str} {params : Arguments} {body : List Stmt} {scope : Scope} {dV kV doc pm cdv ct ow : Value} {an od : Option Addr} {osl : Array (Option Value)}
    (ho : (hd.heap_39 w.params).lookup 100 = some ⟨ow, od, .func (fnOf name qual params body scope dV kV doc pm an cdv ct), osl⟩)
    (X₀ : (hd.heap_39 w.params).In h₀) (T₀ : TR mg mb h₀) (hh : A.handled = none) (F : Fr h₀ L s.heap m) (N : News h₀ L s.heap ((I1, o1) :: (S, lst svs n) :: rest))
    (d1 : S ≠ I1) (f1 : ∀ p ∈ rest, p.1 ≠ S) (f2 : ∀ p ∈ rest, p.1 ≠ I1) (hs : All2 (SpanBy (InL rest)) svs st.2)
    (hra : h₀.get? ra = some (lst [.str lead tl, .ref pa] na)) (hpa : h₀.get? pa = some (lst ps np)) (hps : All2 (PairBy (InH h₀)) ps pairs) (hsm : ∀ p ∈ pairs, p.1.length ≤ 10)
    (hel : st.1.length + 12 * pairs.length ≤ 90000) (hsl : st.2.length + pairs.length ≤ 900)
    (me : m (Str.ofString "endless") = some (.str st.1 te)) (ms : m (Str.ofString "spans") = some (.ref S)) (mr : m (Str.ofString "row") = some (.ref ra))
    (hP : ∀ h' tk m' svs' n' rest' te', Fr h₀ L h' m' → News h₀ L h' ((I1, o1) :: (S, lst svs' n') :: rest') → (∀ p ∈ rest, p ∈ rest') → (∀ p ∈ rest', p.1 ≠ S) → (∀ p ∈ rest', p.1 ≠ I1) →
      All2 (SpanBy (InL rest')) svs' (pairs.foldl spansStep st).2 → m' (Str.ofString "endless") = some (.str (pairs.foldl spansStep st).1 te') → (∀ z, z ≠ Str.ofString "endless" → z ≠ Str.ofString "word" → z ≠ Str.ofString "gap" → m' z = m z) → P .next { s with heap := h', toks := tk }),
    wpAny (model PySem.Challenge.rw_sc0019_01.prog w) (A.deeper (envOfC qual scope L 100 cdv)) (exec (nthS (loopBody (nthS body 8)) 0) (envOfC qual scope L 100 cdv)) P (fun _ _ => False) s := by
  k_fill
  intro w A s h₀ mg mb L I1 S ra pa o1 m rest svs ps n na np te tl st lead pairs P name qual params body scope dV kV doc pm cdv ct ow an od osl ho X₀ T₀ hh F N d1 f1 f2 hs hra hpa hps hsm hel hsl me ms mr hP
  have turn := @spans_turn w A
  obtain ⟨rfl, rfl, rfl, rfl⟩ := fn_inj ho (by k_is)
  dsimp only [nthS, loopBody]
  refine For_list (h₀ := h₀) (items := ps.toArray) (kept := []) (fun i m' news => ∃ svs' n' rest' te', news = (I1, o1) :: (S, lst svs' n') :: rest' ∧ (∀ p ∈ rest, p ∈ rest') ∧ (∀ p ∈ rest', p.1 ≠ S) ∧ (∀ p ∈ rest', p.1 ≠ I1) ∧
    All2 (SpanBy (InL rest')) svs' ((pairs.take i).foldl spansStep st).2 ∧ m' (Str.ofString "endless") = some (.str ((pairs.take i).foldl spansStep st).1 te') ∧ (∀ z, z ≠ Str.ofString "endless" → z ≠ Str.ofString "word" → z ≠ Str.ofString "gap" → m' z = m z)) hh (fun _ _ _ _ p hp => nomatch hp) ?_ ?_ ?_
  · refine endv ?_
    back_in
    exact ⟨_, _, _, _, _, rfl, rfl, F, N, ⟨_, F.keep _ _ hpa, rfl, np, rfl⟩, .inl ⟨_, hpa⟩, svs, n, rest, te, rfl, fun _ h => h, f1, f2, hs, me, fun _ _ _ _ => rfl⟩
  · rintro i v m₁ news₁ h₁ tk₁ I2 o2 hv ⟨svs', n', rest', te', rfl, hsub, g1, g2, hs', me', hm⟩ F₁ N₁ hdis
    obtain ⟨p, hp, ta, nt, t1, t2, rfl, hta⟩ := hps.get' (by simpa using hv)
    have hta' : h₀.get? ta = some (tupO [.str p.1 t1, .str p.2 t2] nt) := hta
    have hst : (pairs.take (i + 1)).foldl spansStep st = spansStep ((pairs.take i).foldl spansStep st) p := fold_take _ _ _ _ hp
    have ms' : m₁ (Str.ofString "spans") = some (.ref S) := (hm _ (by decide) (by decide) (by decide)).trans ms
    walk1
    (try dsimp only)
    rename Fr _ _ _ _ => F7
    rename News _ _ _ _ => N7
    have hgr := spans_grow (pairs.take i) st fun q hq => hsm q (List.mem_of_mem_take hq)
    have htl : (pairs.take i).length ≤ pairs.length := by rw [List.length_take]; omega
    have hI2 : ∀ q ∈ (I1, o1) :: (S, lst svs' n') :: rest', q.1 ≠ I2 := fun q hq => hdis _ (List.mem_singleton.mpr rfl) q hq
    refine turn (s := ⟨_, s.gens, s.drawn, _, s.os⟩) ho X₀ T₀ F7 N7 d1 (hI2 _ (.tail _ (.head _))) g1 g2 (fun p hp => hI2 _ (.tail _ (.tail _ hp))) hs' (by omega) (Nat.le_trans (hsm p (List.mem_of_getElem? hp)) (by decide)) (by rw [hs'.length]; omega)
      (by ktr_rel) (by ktr_rel) (by ktr_rel) (by ktr_rel) ?_
    rintro h' tk m' svs2 n2 rest2 te2 F8 N8 hsub2 k1 k2 k3 hs2 me2 hm2
    rw [← hst] at hs2 me2
    refine Turned.next F8 N8 (fun p hp z hz => ?_) ⟨svs2, n2, rest2, te2, rfl, fun p hp => hsub2 _ (hsub p hp), k1, k2, hs2, me2, fun z z1 z2 z3 => ?_⟩
    · rw [List.mem_singleton.mp hp]
      rcases List.mem_cons.mp hz with rfl | hz
      · exact hI2 _ (.head _)
      rcases List.mem_cons.mp hz with rfl | hz
      · exact hI2 (S, lst svs' n') (.tail _ (.head _))
      · exact k3 z hz
    · rw [hm2 z z1]
      rw [if_neg z3, if_neg z2]
      exact hm z z1 z2 z3
  · rintro m' news' h' tk ⟨svs', n', rest', te', rfl, hsub, g1, g2, hs', me', hm⟩ F₁ N₁
    have hds : ps.toArray.size = pairs.length := by rw [List.size_toArray, hps.length]
    rw [hds, List.take_length] at hs' me'
    exact hP _ _ _ _ _ _ _ F₁ N₁ hsub g1 g2 hs' me' hm
end
section
local macro_rules | `(tactic| walk_at "subscriptTail Name Slice ref ref") => `(tactic| k_dflt (refine w_cut (by k_asm) (by k_asm) (by frow_left) (by omega) (by omega) (by omega) (fun D' h' F' N' l' => ?_)))
set_option pp.maxSteps 3000 in
set_option maxHeartbeats 8000000 in
theorem spans_outer : ∀ {w : World} {A : Around} {s : Shared} {h₀ : Heap} {mg mb : Str → Option Value} {L R S : Addr} {m : Str → Option Value} {rest : List (Addr × Obj)} {oc : Obj} {t1 t2 te : Tok} {vs : List Value} {n nr : Nat} {rows : List PRow} {P : Flow → Shared → Prop}
    {name qual : Str} {params : Arguments} {body : List Stmt} {scope : Scope} {dV kV doc pm cdv ct ow : Value} {an od : Option Addr} {osl : Array (Option Value)}
    (ho : (hd.heap_39 w.params).lookup 100 = some ⟨ow, od, .func (fnOf name qual params body scope dV kV doc pm an cdv ct), osl⟩)
    (X₀ : (hd.heap_39 w.params).In h₀) (T₀ : TR mg mb h₀) (hh : A.handled = none) (F : Fr h₀ L s.heap m) (N : News h₀ L s.heap ((S, lst [] n) :: rest)) (f1 : ∀ p ∈ rest, p.1 ≠ S) (hc : (L + 1, oc) ∈ rest) (hcd : oc.data = .cell (some (.ref R)))
    (hRv : h₀.get? R = some (lst vs nr)) (hvs : All2 (RowBy (InH h₀)) vs rows) (hrl : rows.length ≤ 1000) (hsm : ∀ p ∈ rows.flatMap (·.2), p.1.length ≤ 10) (htot : ((runRows rows).flatMap (·.2)).length ≤ 900)
    (mf : m (Str.ofString "first") = some (.int (bareRows rows : Int) t1)) (ml : m (Str.ofString "last") = some (.int ((bareRows rows + (runRows rows).length : Nat) : Int) t2))
    (me : m (Str.ofString "endless") = some (.str (Str.ofString "") te)) (ms : m (Str.ofString "spans") = some (.ref S))
    (hP : ∀ h' tk m' svs' n' rest' te', Fr h₀ L h' m' → News h₀ L h' ((S, lst svs' n') :: rest') → (∀ p ∈ rest, p ∈ rest') → (∀ p ∈ rest', p.1 ≠ S) →
      All2 (SpanBy (InL rest')) svs' (spansOf ((runRows rows).flatMap (·.2))).2 → m' (Str.ofString "endless") = some (.str (spansOf ((runRows rows).flatMap (·.2))).1 te') →
      (∀ z, z ≠ Str.ofString "endless" → z ≠ Str.ofString "word" → z ≠ Str.ofString "gap" → z ≠ Str.ofString "row" → m' z = m z) → P .next { s with heap := h', toks := tk }),
    wpAny (model PySem.Challenge.rw_sc0019_01.prog w) (A.deeper (envOfC qual scope L 100 cdv)) (exec (nthS body 8) (envOfC qual scope L 100 cdv)) P (fun _ _ => False) s := by
  k_fill
  intro w A s h₀ mg mb L R S m rest oc t1 t2 te vs n nr rows P name qual params body scope dV kV doc pm cdv ct ow an od osl ho X₀ T₀ hh F N f1 hc hcd hRv hvs hrl hsm htot mf ml me ms hP
  have inner := @spans_inner w A
  obtain ⟨rfl, rfl, rfl, rfl⟩ := fn_inj ho (by k_is)
  dsimp only [nthS]
  have hvl : vs.length = rows.length := hvs.length
  have hre := run_end rows
  refine For_listK (h₀ := h₀) hh ?_
  refine endv ?_
  back_in
  rename Fr _ _ _ _ => F1
  rename News _ _ _ _ => N1
  rename Below _ _ => b1
  rename_i D h5
  rw [Nat.add_sub_cancel_left] at N1
  have hcut : All2 (RowBy (InH h₀)) (List.take (runRows rows).length (List.drop (bareRows rows) vs)) (runRows rows) := by
    have := (hvs.drop (bareRows rows)).take (runRows rows).length
    rwa [← run_take] at this
  generalize List.take (runRows rows).length (List.drop (bareRows rows) vs) = cut at N1 hcut
  have hpre : ∀ i, ((runRows rows).take i).flatMap (·.2) <+: (runRows rows).flatMap (·.2) := by
    intro i
    have := List.take_append_drop i (runRows rows)
    refine ⟨((runRows rows).drop i).flatMap (·.2), ?_⟩
    rw [← List.flatMap_append, this]
  have htake : ∀ i r, (runRows rows)[i]? = some r → ((runRows rows).take (i + 1)).flatMap (·.2) = ((runRows rows).take i).flatMap (·.2) ++ r.2 := by
    intro i r hr
    rw [List.take_add_one, hr, List.flatMap_append]
    simp
  refine ⟨D, _, _, m, (S, lst [] n) :: (D, lst cut) :: rest, cut.toArray, [(D, lst cut)], fun i m' news => ∃ svs' n' rest' te', news = (S, lst svs' n') :: rest' ∧ (∀ p ∈ (D, lst cut) :: rest, p ∈ rest') ∧ (∀ p ∈ rest', p.1 ≠ S) ∧
    All2 (SpanBy (InL rest')) svs' (spansOf (((runRows rows).take i).flatMap (·.2))).2 ∧ m' (Str.ofString "endless") = some (.str (spansOf (((runRows rows).take i).flatMap (·.2))).1 te') ∧
    (∀ z, z ≠ Str.ofString "endless" → z ≠ Str.ofString "word" → z ≠ Str.ofString "gap" → z ≠ Str.ofString "row" → m' z = m z), rfl, rfl, F1, News.sub N1 (fun p hp => ?_), isList_of (s := ⟨_, s.gens, s.drawn, 0, s.os⟩) N1 (.head _), .inr ⟨_, .head _⟩, ?_, ?_, ?_, ?_⟩
  · rcases List.mem_cons.mp hp with rfl | hp
    · exact .tail _ (.head _)
    rcases List.mem_cons.mp hp with rfl | hp
    · exact .head _
    · exact .tail _ (.tail _ hp)
  · rintro i m' news' ⟨svs', n', rest', te', rfl, hsub, _⟩ p hp
    rw [List.mem_singleton.mp hp]
    exact .tail _ (hsub _ (.head _))
  · refine ⟨[], n, (D, lst cut) :: rest, te, rfl, fun _ h => h, fun p hp => ?_, .nil, me, fun _ _ _ _ _ => rfl⟩
    rcases List.mem_cons.mp hp with rfl | hp
    · exact Below.gt b1 (.head _)
    · exact f1 p hp
  · rintro i v m₁ news₁ h₁ tk₁ I1 o1 hv ⟨svs', n', rest', te', rfl, hsub, g1, hs', me', hm⟩ F₁ N₁ hdis
    obtain ⟨r, hr, ra, na, tl, pa, ps, np, rfl, hra, hpa, hps⟩ := hcut.get' (by simpa using hv)
    have hra' : h₀.get? ra = some (lst [.str r.1 tl, .ref pa] na) := hra
    have hpa' : h₀.get? pa = some (lst ps np) := hpa
    have hrm : r ∈ rows := (run_mem r (List.mem_of_getElem? hr)).1
    have hsmr : ∀ p ∈ r.2, p.1.length ≤ 10 := fun p hp => hsm p (List.mem_flatMap.mpr ⟨r, hrm, hp⟩)
    have ms' : m₁ (Str.ofString "spans") = some (.ref S) := (hm _ (by decide) (by decide) (by decide) (by decide)).trans ms
    have hgr := spans_grow (((runRows rows).take i).flatMap (·.2)) (Str.ofString "", []) fun p hp => by
      obtain ⟨z, hz, hp⟩ := List.mem_flatMap.mp hp
      exact hsm p (List.mem_flatMap.mpr ⟨z, (run_mem z (List.mem_of_mem_take hz)).1, hp⟩)
    have hll := (hpre (i + 1)).length_le
    rw [htake i r hr, List.length_append] at hll
    have e0 : (Str.ofString "").length = 0 := rfl
    have e00 : ([] : List (Nat × Nat)).length = 0 := rfl
    dsimp only at hgr
    rw [e0, e00] at hgr
    have hst : spansOf (((runRows rows).take (i + 1)).flatMap (·.2)) = r.2.foldl spansStep (spansOf (((runRows rows).take i).flatMap (·.2))) := by
      unfold spansOf
      rw [htake i r hr, List.foldl_append]
    have hI1 : ∀ q ∈ (S, lst svs' n') :: rest', q.1 ≠ I1 := fun q hq => hdis _ (List.mem_singleton.mpr rfl) q hq
    walk1
    (try dsimp only)
    walk1
    (try dsimp only)
    rename Fr _ _ _ _ => F7
    rename News _ _ _ _ => N7
    refine wpAny_execs_cons ?_
    refine inner (s := ⟨_, s.gens, s.drawn, _, s.os⟩) ho X₀ T₀ hh F7 N7 (hI1 _ (.head _)) g1 (fun p hp => hI1 _ (.tail _ hp)) hs' hra' hpa' hps hsmr (by unfold spansOf; omega) (by unfold spansOf; omega)
      (by ktr_rel) (by ktr_rel) (by ktr_rel) ?_
    rintro h' tk m' svs2 n2 rest2 te2 F8 N8 hsub2 k1 k2 hs2 me2 hm2
    rw [← hst] at hs2 me2
    refine wpAny_execs_nil ?_
    refine Turned.next F8 N8 (fun p hp z hz => ?_) ⟨svs2, n2, rest2, te2, rfl, fun p hp => hsub2 _ (hsub p hp), k1, hs2, me2, fun z z1 z2 z3 z4 => ?_⟩
    · rw [List.mem_singleton.mp hp]
      rcases List.mem_cons.mp hz with rfl | hz
      · exact hI1 (S, lst svs' n') (.head _)
      · exact k2 z hz
    · rw [hm2 z z1 z2 z3, if_neg z4]
      exact hm z z1 z2 z3 z4
  · rintro m' news' h' tk ⟨svs', n', rest', te', rfl, hsub, g1, hs', me', hm⟩ F₁ N₁
    have hds : cut.toArray.size = (runRows rows).length := by rw [List.size_toArray, hcut.length]
    rw [hds, List.take_length] at hs' me'
    exact hP _ _ _ _ _ _ _ F₁ N₁ (fun p hp => hsub p (.tail _ hp)) g1 hs' me' hm
end
section
section
variable {prog : Program} {w : World} {A : Around} {E : Value → Shared → Prop} {h₀ : Heap} {L : Addr} {m : Str → Option Value} {news news' : List (Addr × Obj)}
theorem w_sliceSS {value slice : Expr} {z : Str} {t : Tok} {i j : Int} {ui uj : Tok} {hp : Heap} {ge : _} {dr : _} {tk : Nat} {os : _} {Q : Value → Shared → Prop} (F : Fr h₀ L hp m) (N : News h₀ L hp news) (hz : z.length ≤ 16777216)
    (h : ∀ h' t' k, Fr h₀ L h' m → News h₀ L h' news → Q (.str (Txt.slice z (some i) (some j)) t') ⟨h', ge, dr, k, os⟩)
    (hs : subscripted slice false (.str z t) (.ref hp.objs.size) = operate [.ref hp.objs.size, .str z t] (getItem (.str z t) (.ref hp.objs.size)) := by with_unfolding_all rfl)
    (ht : ∀ r, letTemporaryGo value (.str z t) r = pure () := by intro _; with_unfolding_all rfl) :
    wpAny (model prog w) A (subscriptTail value slice (.str z t) (.ref hp.objs.size)) Q E ⟨hp.push { cls := .type "slice", data := .fields #[.int i ui, .int j uj, .none] }, ge, dr, tk, os⟩ :=
  tail_of_ItemOn (SBH.sliceItem_ss (s := ⟨hp, ge, dr, tk, os⟩) (P := fun h => hp.StaysIn h) (fun _ ob a b o e => Heap.get?_push_of_some _ (a b o e)) (fun _ _ e => e) (fun h' t' k st => h h' t' k (Fr.ext F st) (News.ext N st)) (by rw [sizeLine_eq]; exact hz)) hs ht
theorem w_sliceNS {value slice : Expr} {z : Str} {t : Tok} {j : Int} {uj : Tok} {hp : Heap} {ge : _} {dr : _} {tk : Nat} {os : _} {Q : Value → Shared → Prop} (F : Fr h₀ L hp m) (N : News h₀ L hp news) (hz : z.length ≤ 16777216)
    (h : ∀ h' t' k, Fr h₀ L h' m → News h₀ L h' news → Q (.str (Txt.slice z none (some j)) t') ⟨h', ge, dr, k, os⟩)
    (hs : subscripted slice false (.str z t) (.ref hp.objs.size) = operate [.ref hp.objs.size, .str z t] (getItem (.str z t) (.ref hp.objs.size)) := by with_unfolding_all rfl)
    (ht : ∀ r, letTemporaryGo value (.str z t) r = pure () := by intro _; with_unfolding_all rfl) :
    wpAny (model prog w) A (subscriptTail value slice (.str z t) (.ref hp.objs.size)) Q E ⟨hp.push { cls := .type "slice", data := .fields #[.none, .int j uj, .none] }, ge, dr, tk, os⟩ :=
  tail_of_ItemOn (SBH.sliceItem_ns (s := ⟨hp, ge, dr, tk, os⟩) (P := fun h => hp.StaysIn h) (fun _ ob a b o e => Heap.get?_push_of_some _ (a b o e)) (fun _ _ e => e) (fun h' t' k st => h h' t' k (Fr.ext F st) (News.ext N st)) (by rw [sizeLine_eq]; exact hz)) hs ht
end
/-- a span's place in the list of spans -/
theorem span_at {At : Addr → Obj → Prop} {svs : List Value} {sp : List (Nat × Nat)} (h : All2 (SpanBy At) svs sp) {k : Nat} (hk : k < sp.length) :
    ∃ x n t1 t2, svs[k]? = some (.ref x) ∧ At x (tupO [.int ((spAt sp k).1 : Int) t1, .int ((spAt sp k).2 : Int) t2] n) := by
  have e : sp[k]? = some (spAt sp k) := by unfold spAt; rw [List.getD_eq_getElem?_getD, List.getElem?_eq_getElem hk]; rfl
  obtain ⟨v, hv, x, n, t1, t2, rfl, hx⟩ := h.get e
  exact ⟨x, n, t1, t2, hv, hx⟩
/-- what stays in the names while the due is told -/
def Due7 (m : Str → Option Value) (U S FR : Addr) (E : Str) (te : Tok) (lim : Int) (tl : Tok) : Prop :=
  m (Str.ofString "due") = some (.ref U) ∧ m (Str.ofString "spans") = some (.ref S) ∧ m (Str.ofString "fronts") = some (.ref FR) ∧ m (Str.ofString "endless") = some (.str E te) ∧ m (Str.ofString "limit") = some (.int lim tl)
end
section
local macro_rules | `(tactic| walk_at "subscriptTail Name BinOp ref int") => `(tactic| k_dflt (refine w_listitem (by frow_left) (by omega) (by omega) (by assumption) ?_))
local macro_rules | `(tactic| walk_at "subscriptTail Name Slice str ref") => `(tactic| k_dflt (refine w_sliceSS (by k_asm) (by k_asm) (by ktr_room) (fun h' t' k' F' N' => ?_)))
local macro_rules | `(tactic| walk_at "call builtin:len") => `(tactic| k_dflt (refine w_len (by ktr_room) (fun t' k' => ?_)))
set_option pp.maxSteps 3000 in
set_option maxHeartbeats 8000000 in
theorem due_turn : ∀ {w : World} {A : Around} {s : Shared} {h₀ : Heap} {mg mb : Str → Option Value} {L I U S FR : Addr} {o : Obj} {m : Str → Option Value} {rest : List (Addr × Obj)} {dvs svs fvi : List Value} {nd ns nf k : Nat} {te tl tk tf tb t2 : Tok} {sp : List (Nat × Nat)} {st : List Str × Str × Nat} {E f2 : Str} {lim : Int} {P : Flow → Shared → Prop}
    {name qual : Str} {params : Arguments} {body : List Stmt} {scope : Scope} {dV kV doc pm cdv ct ow : Value} {an od : Option Addr} {osl : Array (Option Value)}
    (ho : (hd.heap_39 w.params).lookup 100 = some ⟨ow, od, .func (fnOf name qual params body scope dV kV doc pm an cdv ct), osl⟩)
    (X₀ : (hd.heap_39 w.params).In h₀) (T₀ : TR mg mb h₀) (F : Fr h₀ L s.heap m) (N : News h₀ L s.heap ((I, o) :: (U, lst dvs nd) :: rest))
    (d1 : U ≠ I) (f1 : ∀ p ∈ rest, p.1 ≠ U) (f3 : ∀ p ∈ rest, p.1 ≠ I) (hS : (S, lst svs ns) ∈ rest) (hs : All2 (SpanBy (InL rest)) svs sp) (hF : (FR, lst (fvi ++ [.str f2 t2]) nf) ∈ rest) (hd : StrsAre dvs st.1)
    (hk0 : 1 ≤ k) (hk : k < sp.length) (hb : st.2.2 < sp.length) (hel : E.length ≤ 100000) (hfl : st.2.1.length ≤ 100000) (hdl : dvs.length ≤ 1000) (hsl : svs.length ≤ 1000)
    (hm : Due7 m U S FR E te lim tl) (mf : m (Str.ofString "front") = some (.str st.2.1 tf)) (mb' : m (Str.ofString "begin") = some (.int (st.2.2 : Int) tb)) (mk : m (Str.ofString "place") = some (.int (k : Int) tk))
    (hP : ∀ h' tk' m' dvs' nd' rest' tf' tb', Fr h₀ L h' m' → News h₀ L h' ((I, o) :: (U, lst dvs' nd') :: rest') → (∀ p ∈ rest, p ∈ rest') → (∀ p ∈ rest', p.1 ≠ U) → (∀ p ∈ rest', p.1 ≠ I) → StrsAre dvs' (dueStep lim f2 E sp st k).1 →
      m' (Str.ofString "front") = some (.str (dueStep lim f2 E sp st k).2.1 tf') → m' (Str.ofString "begin") = some (.int ((dueStep lim f2 E sp st k).2.2 : Int) tb') →
      (∀ z, z ≠ Str.ofString "front" → z ≠ Str.ofString "begin" → m' z = m z) → P .next { s with heap := h', toks := tk' }),
    wpAny (model PySem.Challenge.rw_sc0019_01.prog w) (A.deeper (envOfC qual scope L 100 cdv)) (execs (loopBody (nthS body 12)) (envOfC qual scope L 100 cdv)) P (fun _ _ => False) s := by
  k_fill
  intro w A s h₀ mg mb L I U S FR o m rest dvs svs fvi nd ns nf k te tl tk tf tb t2 sp st E f2 lim P name qual params body scope dV kV doc pm cdv ct ow an od osl ho X₀ T₀ F N d1 f1 f3 hS hs hF hd hk0 hk hb hel hfl hdl hsl hm mf mb' mk hP
  obtain ⟨rfl, rfl, rfl, rfl⟩ := fn_inj ho (by k_is)
  dsimp only [nthS, loopBody]
  clear ho
  obtain ⟨mu, ms, mfr, me, ml⟩ := hm
  have hspl : svs.length = sp.length := hs.length
  obtain ⟨xk, nk, tk1, tk2, hxk, zxk⟩ := span_at hs hk
  obtain ⟨xb, nb, tb1, tb2, hxb, zxb⟩ := span_at hs hb
  obtain ⟨xp, np, tp1, tp2, hxp, zxp⟩ := span_at hs (show k - 1 < sp.length by omega)
  have hxk' : svs[((k : Nat) : Int).toNat]? = some (.ref xk) := by rw [Int.toNat_natCast]; exact hxk
  have hxb' : svs[((st.2.2 : Nat) : Int).toNat]? = some (.ref xb) := by rw [Int.toNat_natCast]; exact hxb
  have hxp' : svs[((k : Int) - 1).toNat]? = some (.ref xp) := by rw [show ((k : Int) - 1).toNat = k - 1 by omega]; exact hxp
  have hex : (expand st.2.1).length ≤ 16777216 := by
    have := expand_length st.2.1
    omega
  have hsll : (Txt.slice E (some ((spAt sp st.2.2).1 : Int)) (some ((spAt sp (k - 1)).2 : Int))).length ≤ 100000 := Nat.le_trans (PyProof.Txt.length_slice_le _ _ _) hel
  back_in
  walk1
  (try dsimp only)
  back_in
  · rename lim < _ => hl
    rename Fr _ _ _ _ => F8
    rename News _ _ _ _ => N8
    have e : dueStep lim f2 E sp st k = (st.1 ++ [st.2.1 ++ Txt.slice E (some ((spAt sp st.2.2).1 : Int)) (some ((spAt sp (k - 1)).2 : Int))], f2, k) := if_pos hl
    rw [e] at hP
    dsimp only at hP
    exact hP _ _ _ _ _ rest _ _ F8 N8 (fun _ h => h) f1 f3 (strsAre_append hd (.cons _ _ .nil)) (by ktr_rel) (by ktr_rel) (fun z z1 z2 => (if_neg z1).trans (if_neg z2))
  · rename ¬(lim < _) => hl
    have e : dueStep lim f2 E sp st k = st := if_neg hl
    rw [e] at hP
    exact hP _ _ m dvs nd rest tf tb F N (fun _ h => h) f1 f3 hd mf mb' (fun _ _ _ => rfl)
end
section
theorem due_begin {lim : Int} {f1 f2 E : Str} {sp : List (Nat × Nat)} : ∀ k, (dueLoop lim f1 f2 E sp (k + 1)).2.2 ≤ k
  | 0 => Nat.le_refl _
  | k + 1 => by
    rw [dueLoop_succ _ _ _ _ _ (by omega)]
    have := due_begin (lim := lim) (f1 := f1) (f2 := f2) (E := E) (sp := sp) k
    unfold dueStep
    split
    · exact Nat.le_refl _
    · omega
local macro_rules | `(tactic| walk_at "call builtin:len") => `(tactic| k_dflt (refine w_lenH (by frow_left) (by ktr_room) (fun t' k' => ?_)))
set_option pp.maxSteps 3000 in
set_option maxHeartbeats 8000000 in
theorem due_loop : ∀ {w : World} {A : Around} {s : Shared} {h₀ : Heap} {mg mb : Str → Option Value} {L U S FR : Addr} {m : Str → Option Value} {rest : List (Addr × Obj)} {svs fvi : List Value} {nd ns nf : Nat} {te tl tf tb t2 : Tok} {sp : List (Nat × Nat)} {E f1' f2 : Str} {lim : Int} {P : Flow → Shared → Prop}
    {name qual : Str} {params : Arguments} {body : List Stmt} {scope : Scope} {dV kV doc pm cdv ct ow : Value} {an od : Option Addr} {osl : Array (Option Value)}
    (ho : (hd.heap_39 w.params).lookup 100 = some ⟨ow, od, .func (fnOf name qual params body scope dV kV doc pm an cdv ct), osl⟩)
    (X₀ : (hd.heap_39 w.params).In h₀) (T₀ : TR mg mb h₀) (hh : A.handled = none) (F : Fr h₀ L s.heap m) (N : News h₀ L s.heap ((U, lst [] nd) :: rest))
    (f1 : ∀ p ∈ rest, p.1 ≠ U) (hS : (S, lst svs ns) ∈ rest) (hs : All2 (SpanBy (InL rest)) svs sp) (hF : (FR, lst (fvi ++ [.str f2 t2]) nf) ∈ rest)
    (hel : E.length ≤ 100000) (hf1 : f1'.length ≤ 100000) (hf2 : f2.length ≤ 100000) (hsl : sp.length ≤ 900) (hsp : 1 ≤ sp.length)
    (hm : Due7 m U S FR E te lim tl) (mf : m (Str.ofString "front") = some (.str f1' tf)) (mb' : m (Str.ofString "begin") = some (.int 0 tb))
    (hP : ∀ h' tk' m' dvs' nd' rest' tf' tb', Fr h₀ L h' m' → News h₀ L h' ((U, lst dvs' nd') :: rest') → (∀ p ∈ rest, p ∈ rest') → (∀ p ∈ rest', p.1 ≠ U) → StrsAre dvs' (dueLoop lim f1' f2 E sp sp.length).1 →
      m' (Str.ofString "front") = some (.str (dueLoop lim f1' f2 E sp sp.length).2.1 tf') → m' (Str.ofString "begin") = some (.int ((dueLoop lim f1' f2 E sp sp.length).2.2 : Int) tb') →
      (∀ z, z ≠ Str.ofString "front" → z ≠ Str.ofString "begin" → z ≠ Str.ofString "place" → m' z = m z) → P .next { s with heap := h', toks := tk' }),
    wpAny (model PySem.Challenge.rw_sc0019_01.prog w) (A.deeper (envOfC qual scope L 100 cdv)) (exec (nthS body 12) (envOfC qual scope L 100 cdv)) P (fun _ _ => False) s := by
  k_fill
  intro w A s h₀ mg mb L U S FR m rest svs fvi nd ns nf te tl tf tb t2 sp E f1' f2 lim P name qual params body scope dV kV doc pm cdv ct ow an od osl ho X₀ T₀ hh F N f1 hS hs hF hel hf1 hf2 hsl hsp hm mf mb' hP
  have turn := @due_turn w A
  obtain ⟨rfl, rfl, rfl, rfl⟩ := fn_inj ho (by k_is)
  dsimp only [nthS]
  obtain ⟨mu, ms, mfr, me, ml⟩ := hm
  have hspl : svs.length = sp.length := hs.length
  refine For_range (h₀ := h₀) (n := sp.length - 1) (a := 1) (b := (svs.length : Int)) (c := 1) (fun i m' news => ∃ dvs' nd' rest' tf' tb', news = (U, lst dvs' nd') :: rest' ∧ (∀ p ∈ rest, p ∈ rest') ∧ (∀ p ∈ rest', p.1 ≠ U) ∧ StrsAre dvs' (dueLoop lim f1' f2 E sp (i + 1)).1 ∧
      m' (Str.ofString "front") = some (.str (dueLoop lim f1' f2 E sp (i + 1)).2.1 tf') ∧ m' (Str.ofString "begin") = some (.int ((dueLoop lim f1' f2 E sp (i + 1)).2.2 : Int) tb') ∧
      (∀ z, z ≠ Str.ofString "front" → z ≠ Str.ofString "begin" → z ≠ Str.ofString "place" → m' z = m z)) hh (small_one (a := 1) (by omega) (by omega)) (by have := size_one 1 svs.length; rw [← hspl]; exact this) ?_ ?_ ?_
  · refine endv ?_
    back_in
    rename Fr _ _ _ _ => F8
    rename News _ _ _ _ => N8
    exact ⟨_, _, _, _, _, _, _, _, rfl, rfl, F8, N8, by assumption, [], nd, rest, tf, tb, rfl, fun _ h => h, f1, .nil, mf, mb', fun _ _ _ _ => rfl⟩
  · rintro i t m₁ news₁ h₁ tk₁ I o hi ⟨dvs', nd', rest', tf', tb', rfl, hsub, g1, hd', mf', mb2, hm'⟩ F₁ N₁ hdis
    have hI : ∀ q ∈ (U, lst dvs' nd') :: rest', q.1 ≠ I := fun q hq => hdis _ (List.mem_singleton.mpr rfl) q hq
    rw [show ((1 : Int) + (i : Int) * 1) = ((i + 1 : Nat) : Int) by omega]
    obtain ⟨b1, b2, b3⟩ := dueLoop_all (Pr := fun _ => True) (lim := lim) (f1 := f1') (f2 := f2) (E := E) (sp := sp) (fun _ _ _ _ => trivial) (i + 1)
    have hbe := due_begin (lim := lim) (f1 := f1') (f2 := f2) (E := E) (sp := sp) i
    have hfl : (dueLoop lim f1' f2 E sp (i + 1)).2.1.length ≤ 100000 := by
      rcases b2 with q | q <;> rw [q] <;> assumption
    have hdl := strsAre_length hd'
    walk1
    (try dsimp only)
    walk1
    (try dsimp only)
    rename Fr _ _ _ _ => F7
    rename News _ _ _ _ => N7
    have hu := fun z h1 h2 h3 => hm' z h1 h2 h3
    refine turn (s := ⟨_, s.gens, s.drawn, _, s.os⟩) (te := te) (tl := tl) (lim := lim) (k := i + 1) (st := dueLoop lim f1' f2 E sp (i + 1)) ho X₀ T₀ F7 N7 (hI _ (.head _)) g1 (fun p hp => hI _ (.tail _ hp)) (hsub _ hS) (hs.mono fun _ _ => SpanBy.mono fun a o h => hsub _ h) (hsub _ hF) hd' (by omega) (by omega) (by omega) hel hfl (by omega) (by omega)
      ⟨get_there (by decide) ((hu _ (by decide) (by decide) (by decide)).trans mu), get_there (by decide) ((hu _ (by decide) (by decide) (by decide)).trans ms), get_there (by decide) ((hu _ (by decide) (by decide) (by decide)).trans mfr), get_there (by decide) ((hu _ (by decide) (by decide) (by decide)).trans me), get_there (by decide) ((hu _ (by decide) (by decide) (by decide)).trans ml)⟩
      (by ktr_rel) (by ktr_rel) (by ktr_rel) ?_
    rintro h' tk' m' dvs2 nd2 rest2 tf2 tb2 F8 N8 hsub2 k1 k2 hd2 mf2 mb3 hm2
    rw [← dueLoop_succ _ _ _ _ _ (by omega)] at hd2 mf2 mb3
    refine Turned.next F8 N8 (fun p hp z hz => ?_) ⟨dvs2, nd2, rest2, tf2, tb2, rfl, fun p hp => hsub2 _ (hsub p hp), k1, hd2, mf2, mb3, fun z z1 z2 z3 => ?_⟩
    · rw [List.mem_singleton.mp hp]
      rcases List.mem_cons.mp hz with rfl | hz
      · exact hI (U, lst dvs' nd') (.head _)
      · exact k2 z hz
    · rw [hm2 z z1 z2, if_neg z3]
      exact hm' z z1 z2 z3
  · rintro m' news' h' tk ⟨dvs', nd', rest', tf', tb', rfl, hsub, g1, hd', mf', mb2, hm'⟩ F₁ N₁
    rw [show sp.length - 1 + 1 = sp.length by omega] at hd' mf' mb2
    exact hP _ _ _ _ _ _ _ _ F₁ N₁ hsub g1 hd' mf' mb2 hm'
end
section
section
variable {prog : Program} {w : World} {A : Around} {E : Value → Shared → Prop} {s : Shared} {h₀ : Heap} {L : Addr} {m : Str → Option Value} {news : List (Addr × Obj)}
theorem w_truthl_nil {a : Addr} {n : Nat} {Q : Bool → Shared → Prop} (ha : s.heap.get? a = some (lst [] n)) (h : ∀ k, Q false { s with toks := k }) : wpAny (model prog w) A (truthy (.ref a)) Q E s := w_truthl ha (Nat.zero_le _) h
theorem w_truthl_cons {a : Addr} {n : Nat} {v : Value} {vs : List Value} {Q : Bool → Shared → Prop} (ha : s.heap.get? a = some (lst (v :: vs) n)) (hb : vs.length ≤ 100000) (h : ∀ k, Q true { s with toks := k }) : wpAny (model prog w) A (truthy (.ref a)) Q E s := w_truthl ha (by rw [List.length_cons]; omega) h
theorem w_addl {a b : Addr} {vs ws : List Value} {n k : Nat} {Q : Value → Shared → Prop} (F : Fr h₀ L s.heap m) (N : News h₀ L s.heap news) (ha : s.heap.get? a = some (lst vs n)) (hb : s.heap.get? b = some (lst ws k)) (hz : vs.length + ws.length ≤ 1000000)
    (h : ∀ D h', Fr h₀ L h' m → News h₀ L h' ((D, lst (vs ++ ws)) :: news) → Below D news → Q (.ref D) { s with heap := h' }) : wpAny (model prog w) A (binaryOp .Add (.ref a) (.ref b)) Q E s :=
  add_lists F N ⟨_, ha, rfl, n, rfl⟩ ⟨_, hb, rfl, k, rfl⟩ (fun h' F' N' => h _ h' F' N' fun p hp => Heap.lt_size (N p hp).1) (by rw [sizeLine_eq]; omega)
end
local macro_rules | `(tactic| walk_at "binaryOp Add ref ref") => `(tactic| k_dflt (refine w_addl (by k_asm) (by k_asm) (by frow_left) (by frow_left) (by ktr_room) (fun D' h' F' N' l' => ?_)))
local macro_rules | `(tactic| walk_at "subscriptTail Name Slice ref ref") => `(tactic| k_dflt (first | (refine w_uptoH (by k_asm) (by k_asm) (by frow_left) (by omega) (fun D' h' F' N' l' => ?_)) | (refine w_fromH (by k_asm) (by k_asm) (by frow_left) (by omega) (fun D' h' F' N' l' => ?_))))
local macro_rules | `(tactic| walk_at "subscriptTail Name Slice str ref") => `(tactic| k_dflt (refine w_sliceSS (by k_asm) (by k_asm) (by ktr_room) (fun h' t' k' F' N' => ?_)))
set_option pp.maxSteps 3000 in
set_option maxHeartbeats 8000000 in
theorem filled_end : ∀ {w : World} {A : Around} {s : Shared} {h₀ : Heap} {mg mb : Str → Option Value} {L U S ta : Addr} {m : Str → Option Value} {rest : List (Addr × Obj)} {dvs svs tvs : List Value} {nd ns tn b i j : Nat} {te tf tb ti tj : Tok} {sp : List (Nat × Nat)} {E f : Str} {P : Flow → Shared → Prop}
    {name qual : Str} {params : Arguments} {body : List Stmt} {scope : Scope} {dV kV doc pm cdv ct ow : Value} {an od : Option Addr} {osl : Array (Option Value)}
    (ho : (hd.heap_39 w.params).lookup 100 = some ⟨ow, od, .func (fnOf name qual params body scope dV kV doc pm an cdv ct), osl⟩)
    (X₀ : (hd.heap_39 w.params).In h₀) (T₀ : TR mg mb h₀) (F : Fr h₀ L s.heap m) (N : News h₀ L s.heap ((U, lst dvs nd) :: rest))
    (f1 : ∀ p ∈ rest, p.1 ≠ U) (hS : (S, lst svs ns) ∈ rest) (hs : All2 (SpanBy (InL rest)) svs sp) (hta : h₀.get? ta = some (lst tvs tn))
    (hb : b < sp.length) (hel : E.length ≤ 100000) (hfl : f.length ≤ 100000) (hsl : sp.length ≤ 900) (hdl : dvs.length ≤ 1000) (htl : tvs.length ≤ 1000)
    (mu : m (Str.ofString "due") = some (.ref U)) (ms : m (Str.ofString "spans") = some (.ref S)) (me : m (Str.ofString "endless") = some (.str E te)) (mf : m (Str.ofString "front") = some (.str f tf)) (mb' : m (Str.ofString "begin") = some (.int (b : Int) tb))
    (mt : m (Str.ofString "texts") = some (.ref ta)) (mi : m (Str.ofString "first") = some (.int (i : Int) ti)) (mj : m (Str.ofString "last") = some (.int (j : Int) tj))
    (hP : ∀ h' tk m' D t' news', Fr h₀ L h' m' → News h₀ L h' ((D, lst (tvs.take i ++ (dvs ++ [.str (f ++ Txt.slice E (some ((spAt sp b).1 : Int)) (some ((spAt sp (sp.length - 1)).2 : Int))) t']) ++ tvs.drop j)) :: news') → P (.ret (.ref D)) { s with heap := h', toks := tk }),
    wpAny (model PySem.Challenge.rw_sc0019_01.prog w) (A.deeper (envOfC qual scope L 100 cdv)) (execs (body.drop 13) (envOfC qual scope L 100 cdv)) P (fun _ _ => False) s := by
  k_fill
  intro w A s h₀ mg mb L U S ta m rest dvs svs tvs nd ns tn b i j te tf tb ti tj sp E f P name qual params body scope dV kV doc pm cdv ct ow an od osl ho X₀ T₀ F N f1 hS hs hta hb hel hfl hsl hdl htl mu ms me mf mb' mt mi mj hP
  obtain ⟨rfl, rfl, rfl, rfl⟩ := fn_inj ho (by k_is)
  dsimp only [List.drop]
  clear ho
  obtain ⟨xb, nb, tb1, tb2, hxb, zxb⟩ := span_at hs hb
  have hxb' : svs[((b : Nat) : Int).toNat]? = some (.ref xb) := by rw [Int.toNat_natCast]; exact hxb
  have hsvl : svs.length = sp.length := hs.length
  rcases hs.snoc_or with ⟨_, e⟩ | ⟨svi, v, spi, c, ev, ec, hsi, xl, nl', tl1, tl2, rfl, zxl⟩
  · rw [e] at hb; exact absurd hb (Nat.not_lt_zero _)
  have hc : spAt sp (sp.length - 1) = c := by
    unfold spAt
    rw [ec, List.length_append, List.length_singleton, Nat.add_sub_cancel, List.getD_eq_getElem?_getD, List.getElem?_append_right (Nat.le_refl _), Nat.sub_self]; rfl
  rw [hc] at hP
  subst ev
  have hsll : (Txt.slice E (some ((spAt sp b).1 : Int)) (some (c.2 : Int))).length ≤ 100000 := Nat.le_trans (PyProof.Txt.length_slice_le _ _ _) hel
  have htk : (tvs.take i).length ≤ 1000 := by rw [List.length_take]; omega
  have htd : (tvs.drop j).length ≤ 1000 := by rw [List.length_drop]; omega
  back_in
  rename Fr _ _ _ _ => F8
  rename News _ _ _ _ => N8
  exact hP _ _ _ _ _ _ F8 N8
end
section
local macro_rules | `(tactic| walk_at "truthy ref") => `(tactic| k_dflt (first | (refine w_truthl_nil (by frow_left) (fun k' => ?_)) | (refine w_truthl_cons (by frow_left) (by omega) (fun k' => ?_))))
local macro_rules | `(tactic| walk_at "binaryOp Add ref ref") => `(tactic| k_dflt (refine w_addl (by k_asm) (by k_asm) (by frow_left) (by frow_left) (by ktr_room) (fun D' h' F' N' l' => ?_)))
local macro_rules | `(tactic| walk_at "subscriptTail Name Slice ref ref") => `(tactic| k_dflt (first | (refine w_uptoH (by k_asm) (by k_asm) (by frow_left) (by omega) (fun D' h' F' N' l' => ?_)) | (refine w_fromH (by k_asm) (by k_asm) (by frow_left) (by omega) (fun D' h' F' N' l' => ?_))))
local macro_rules | `(tactic| walk_at "subscriptTail Name Slice str ref") => `(tactic| k_dflt (refine w_sliceSS (by k_asm) (by k_asm) (by ktr_room) (fun h' t' k' F' N' => ?_)))
local macro_rules | `(tactic| walk_at "subscriptTail Name Constant ref int") => `(tactic| k_dflt (first | (refine w_tupitem (by frow_left) (by decide) (by decide) rfl ?_) | (refine w_listitem (by frow_left) (by decide) (by decide) rfl ?_) | (refine w_listitem (by frow_left) (by decide) (by decide) (by assumption) ?_)))
theorem run_ne {rows : List PRow} (h : bareRows rows < rows.length) : runRows rows ≠ [] := by
  have hw := (bare_lt (rows := rows)).2.1 h
  unfold hasWords at hw
  rw [List.getD_eq_getElem?_getD, List.getElem?_eq_getElem h] at hw
  unfold runRows
  have hw' : (!(rows[bareRows rows]).2.isEmpty) = true := hw
  rw [List.drop_eq_getElem_cons h, List.takeWhile_cons, if_pos hw']
  simp
theorem ints_cons {vs : List Value} {a : Nat} {r : List Nat} (h : IntsAre vs (asInts (a :: r))) : ∃ t vs', vs = .int (a : Int) t :: vs' ∧ vs'.length = r.length := by
  obtain ⟨t, vs', e, h'⟩ := IntsAre.cons_inv (h : IntsAre vs ((a : Int) :: asInts r))
  exact ⟨t, vs', e, by rw [h'.length]; exact List.length_map _⟩
set_option pp.maxSteps 3000 in
set_option maxHeartbeats 8000000 in
theorem code_filled : ∀ {w : World} {A : Around} {s : Shared} {mg mb : Str → Option Value} {R ta : Addr} {rows : List PRow} {vs tvs : List Value} {nr tn : Nat} {texts : List Str} {lim : Int} {u : Tok} {Rr : Result → Shared → Prop}
    (X : (hd.heap_39 w.params).In s.heap) (T : TR mg mb s.heap) (hroom : A.depth < recursionLimit) (hh : A.handled = none) (hok : ∀ r ∈ rows, LRow r) (hne : rows ≠ []) (htal : tally rows ≤ 25)
    (hRv : s.heap.get? R = some (lst vs nr)) (hvs : All2 (RowBy (InH s.heap)) vs rows) (hta : s.heap.get? ta = some (lst tvs tn)) (htv : StrsAre tvs (rows.map rowText))
    (hR : ∀ (h' : Heap) (tk : Nat) (r : Addr) (fvs : List Value) (n : Nat) (led : List (Addr × Obj)), s.heap.StaysIn h' → (∀ p ∈ led, h'.get? p.1 = some p.2 ∧ s.heap.get? p.1 = none) → ((r, lst fvs n) ∈ led ∨ (r = ta ∧ fvs = tvs ∧ n = tn)) → StrsAre fvs (filled rows (rows.map rowText) lim) → Rr (.ok (.ret (.ref r))) { s with heap := h', toks := tk }),
   codeAny (model PySem.Challenge.rw_sc0019_01.prog w) A (.call (.ref 100) ⟨[.ref R, .ref ta, .int lim u], []⟩) Rr s := by
  k_fill
  intro w A s mg mb R ta rows vs tvs nr tn texts lim u Rr X T hroom hh hok hne htal hRv hvs hta htv hR
  have full := @filled_full w A
  have whil := @filled_while w A
  have fronts := @filled_fronts w A
  have spans := @spans_outer w A
  have duel := @due_loop w A
  have fin := @filled_end w A
  obtain ⟨K, hK⟩ : ∃ K, K = (hd.heap_39 w.params).lookup 100 := ⟨_, rfl⟩
  refine enterC (news := []) X T (fun _ h => nomatch h) (by k_is) (by k_is) (by omega) (BindsTo.of_eq rfl) (by rfl) (by decide) (fun L h₁ tk cells F N C => ?_)
  obtain ⟨m0, hm0⟩ : ∃ m0 : Str → Option Value, m0 = (fun z => if z = Str.ofString "limit" then some (.int lim u) else if z = Str.ofString "texts" then some (.ref ta) else none) := ⟨_, rfl⟩
  have F : Fr s.heap L h₁ m0 := hm0 ▸ F
  have mt : m0 (Str.ofString "texts") = some (.ref ta) := by rw [hm0]; rfl
  have mlim : m0 (Str.ofString "limit") = some (.int lim u) := by rw [hm0]; rfl
  clear hm0
  change News s.heap L h₁ (cells ++ []) at N
  have C' : CellsAre _ [(Str.ofString "rows", L + 1)] cells := C
  obtain ⟨oc, rfl, hcd⟩ := CellsAre.one C'
  change oc.data = .cell (some (.ref R)) at hcd
  change News s.heap L h₁ [(L + 1, oc)] at N
  clear C C'
  have hlen : ∀ l : List PRow, l.length ≤ tally l := by
    intro l
    induction l with
    | nil => exact Nat.le_refl _
    | cons a r ih =>
      have e : tally (a :: r) = (a.2.length + 1) + tally r := by unfold tally; rw [List.map_cons, List.sum_cons]
      rw [List.length_cons, e]; omega
  have hrl : rows.length ≤ 25 := Nat.le_trans (hlen rows) htal
  have hpl : ∀ r ∈ rows, r.2.length ≤ 1000 := by
    have : ∀ l : List PRow, ∀ r ∈ l, r.2.length ≤ tally l := by
      intro l
      induction l with
      | nil => intro r hr; cases hr
      | cons a l ih =>
        intro r hr
        have e : tally (a :: l) = (a.2.length + 1) + tally l := by unfold tally; rw [List.map_cons, List.sum_cons]
        rcases List.mem_cons.mp hr with rfl | hr
        · omega
        · have := ih r hr; omega
    exact fun r hr => Nat.le_trans (this rows r hr) (by omega)
  have hlead : ∀ r ∈ rows, r.1.length ≤ 1000 := fun r hr => by have := (hok r hr).short; rw [tl_len] at this; omega
  have hsm : ∀ p ∈ rows.flatMap (·.2), p.1.length ≤ 10 := fun p hp => by rw [← tl_len]; exact pairs_small hok p hp
  have htot : ((runRows rows).flatMap (·.2)).length ≤ 25 := by
    rcases tally_run (rows := rows) with q | q
    · rw [q]; exact Nat.zero_le _
    · omega
  have htvl : tvs.length = rows.length := by rw [strsAre_length htv, List.length_map]
  have hre := run_end rows
  refine wpAny_execs_cons ?_
  refine full (s := ⟨_, s.gens, s.drawn, _, s.os⟩) (by k_is) X T hh F N (.head _) hcd ⟨vs, nr, hRv, hvs⟩ (by omega) hpl ?_
  rintro h1 tk1 D fv n F1 N1 hfv
  dsimp only
  have hfl : (fullOf rows).length ≤ 25 := by
    unfold fullOf
    exact Nat.le_trans (List.length_filter_le _ _) (by rw [List.length_range]; exact hrl)
  by_cases hf : fullOf rows = []
  · rw [hf] at hfv
    cases hfv
    ktr_unf
    rename Fr _ _ _ _ => F2
    exact hR _ _ ta tvs tn [] F2.keep (fun _ h => nomatch h) (.inr ⟨rfl, rfl, rfl⟩) (by unfold filled; rw [full_nil hf]; exact htv)
  · obtain ⟨hlt, rr, er⟩ := full_head hf
    have hfv2 := hfv
    rw [er] at hfv2
    obtain ⟨t0, fv', rfl, hfl2⟩ := ints_cons hfv2
    clear hfv2
    have hrr : rr.length ≤ 25 := by rw [er, List.length_cons] at hfl; omega
    ktr_unf
    rename Fr _ _ _ _ => F2
    rename News _ _ _ _ => N2
    refine whil (s := ⟨_, s.gens, s.drawn, _, s.os⟩) (by k_is) X T hh F2 N2 (.head _) hfv (by omega) (by ktr_rel) (by ktr_rel) ?_
    rintro h2 tk2 m2 t2 F3 N3 ml hm2
    have mt2 : m2 (Str.ofString "texts") = some (.ref ta) := (hm2 _ (by decide)).trans (by ktr_rel)
    have mlim2 : m2 (Str.ofString "limit") = some (.int lim u) := (hm2 _ (by decide)).trans (by ktr_rel)
    have mf2 : m2 (Str.ofString "first") = some (.int (bareRows rows : Int) t0) := (hm2 _ (by decide)).trans (by ktr_rel)
    clear F2 N2
    dsimp only
    refine wpAny_execs_cons ?_
    refine fronts (s := ⟨_, s.gens, s.drawn, _, s.os⟩) (by k_is) X T hh F3 N3 (.tail _ (.head _)) hcd hRv hvs (by omega) hlead mf2 ml ?_
    rintro h3 tk3 FR frv nfr news3 F4 N4 hsub3 hfrv
    have hcm : (L + 1, oc) ∈ news3 := hsub3 _ (.tail _ (.head _))
    obtain ⟨m4, hm4⟩ : ∃ m4 : Str → Option Value, m4 = (fun z => if z = Str.ofString "fronts" then some (.ref FR) else m2 z) := ⟨_, rfl⟩
    rw [← hm4] at F4
    have mt4 : m4 (Str.ofString "texts") = some (.ref ta) := by rw [hm4]; ktr_rel
    have mlim4 : m4 (Str.ofString "limit") = some (.int lim u) := by rw [hm4]; ktr_rel
    have mf4 : m4 (Str.ofString "first") = some (.int (bareRows rows : Int) t0) := by rw [hm4]; ktr_rel
    have ml4 : m4 (Str.ofString "last") = some (.int ((bareRows rows + (runRows rows).length : Nat) : Int) t2) := by rw [hm4]; ktr_rel
    have mfr4 : m4 (Str.ofString "fronts") = some (.ref FR) := by rw [hm4]; ktr_rel
    clear hm4 F3 N3 hm2 mt2 mlim2 mf2 ml
    dsimp only
    ktr_unf
    rename Fr _ _ _ _ => F5
    rename News _ _ _ _ => N5
    rename Below _ _ => bS
    obtain ⟨r, rs, erun⟩ : ∃ r rs, runRows rows = r :: rs := List.exists_cons_of_ne_nil (run_ne hlt)
    obtain ⟨f1, ef1⟩ : ∃ f1, f1 = frontOf r.1 := ⟨_, rfl⟩
    obtain ⟨f2, ef2⟩ : ∃ f2, f2 = front2 f1 rs := ⟨_, rfl⟩
    obtain ⟨⟨tq, frv', efr⟩, fvi, tq2, efr2⟩ : (∃ tq frv', frv = .str f1 tq :: frv') ∧ ∃ fvi tq2, frv = fvi ++ [.str f2 tq2] := by
      rw [erun] at hfrv
      cases rs with
      | nil =>
        have h : StrsAre frv [frontOf r.1] := hfrv
        cases h with
        | cons y t h => cases h; rw [ef2, ef1]; exact ⟨⟨_, _, rfl⟩, [], _, rfl⟩
      | cons z q =>
        have h : StrsAre frv [frontOf r.1, frontOf z.1] := hfrv
        cases h with
        | cons y t h =>
          cases h with
          | cons y' t' h => cases h; rw [ef2, ef1]; exact ⟨⟨_, _, rfl⟩, [_], _, rfl⟩
    have hfronts := fun f h => run_fronts hok erun f h
    have hf1l : f1.length ≤ 100000 := by
      obtain ⟨z, hz, e⟩ := hfronts f1 (.inl ef1)
      have h1 := (hok z hz).front
      have h2 := (hok z hz).short
      have h3 : (tl (frontOf z.1)).length ≤ (tl z.1).length := by rw [h1]; exact (List.takeWhile_prefix _).length_le
      rw [e, ← tl_len]; omega
    have hf2l : f2.length ≤ 100000 := by
      obtain ⟨z, hz, e⟩ := hfronts f2 (.inr (by rw [ef2, ef1]))
      have h1 := (hok z hz).front
      have h2 := (hok z hz).short
      have h3 : (tl (frontOf z.1)).length ≤ (tl z.1).length := by rw [h1]; exact (List.takeWhile_prefix _).length_le
      rw [e, ← tl_len]; omega
    refine spans (s := ⟨_, s.gens, s.drawn, _, s.os⟩) (by k_is) X T hh F5 N5 (fun p hp => Below.ne bS p hp) (.tail _ hcm) hcd hRv hvs (by omega) hsm (by omega) (by ktr_rel) (by ktr_rel) (by ktr_rel) (by ktr_rel) ?_
    rintro h5 tk5 m5 svs ns rest5 te5 F6 N6 hsub5 g5 hs5 me5 hm5
    obtain ⟨pl, epl⟩ : ∃ pl, pl = (runRows rows).flatMap (·.2) := ⟨_, rfl⟩
    rw [← epl] at hs5 me5 htot
    obtain ⟨E, eE⟩ : ∃ E, E = (spansOf pl).1 := ⟨_, rfl⟩
    obtain ⟨sp, esp⟩ : ∃ sp, sp = (spansOf pl).2 := ⟨_, rfl⟩
    rw [← eE] at me5
    rw [← esp] at hs5
    have hEl : E.length ≤ 100000 := by
      have h1 := endl_len pl (fun p hp => by
        rw [tl_len]
        refine hsm p ?_
        rw [epl] at hp
        obtain ⟨z, hz, hp⟩ := List.mem_flatMap.mp hp
        exact List.mem_flatMap.mpr ⟨z, (run_mem z hz).1, hp⟩)
      rw [eE, ← tl_len, (spans_is pl).1]; omega
    have hspl : sp.length = pl.length := by rw [esp, (spans_is pl).2]; simp
    have hpl1 : 1 ≤ pl.length := by
      have h1 := (run_mem r (by rw [erun]; exact List.mem_cons_self ..)).2
      have h2 : 1 ≤ r.2.length := List.length_pos_iff.mpr h1
      rw [epl, erun, List.flatMap_cons, List.length_append]; omega
    have mt5 : m5 (Str.ofString "texts") = some (.ref ta) := (hm5 _ (by decide) (by decide) (by decide) (by decide)).trans (by ktr_rel)
    have mlim5 : m5 (Str.ofString "limit") = some (.int lim u) := (hm5 _ (by decide) (by decide) (by decide) (by decide)).trans (by ktr_rel)
    have mf5 : m5 (Str.ofString "first") = some (.int (bareRows rows : Int) t0) := (hm5 _ (by decide) (by decide) (by decide) (by decide)).trans (by ktr_rel)
    have ml5 : m5 (Str.ofString "last") = some (.int ((bareRows rows + (runRows rows).length : Nat) : Int) t2) := (hm5 _ (by decide) (by decide) (by decide) (by decide)).trans (by ktr_rel)
    have mfr5 : m5 (Str.ofString "fronts") = some (.ref FR) := (hm5 _ (by decide) (by decide) (by decide) (by decide)).trans (by ktr_rel)
    have hfrv0 : frv[(0 : Int).toNat]? = some (.str f1 tq) := by rw [efr]; rfl
    have hFR : (FR, lst frv nfr) ∈ rest5 := hsub5 _ (.head _)
    obtain ⟨S, ms5, N6, g5⟩ : ∃ S, m5 (Str.ofString "spans") = some (.ref S) ∧ News s.heap L _ ((S, lst svs ns) :: rest5) ∧ ∀ p ∈ rest5, p.1 ≠ S := ⟨_, (hm5 _ (by decide) (by decide) (by decide) (by decide)).trans get_here, N6, g5⟩
    clear F5 N5 hm5 bS mt4 mlim4 mf4 ml4 mfr4
    dsimp only
    ktr_unf
    rename Fr _ _ _ _ => F7
    rename News _ _ _ _ => N7
    rename Below _ _ => bU
    refine duel (s := ⟨_, s.gens, s.drawn, _, s.os⟩) (te := te5) (tl := u) (lim := lim) (E := E) (fvi := fvi) (f2 := f2) (t2 := tq2) (nf := nfr) (FR := FR) (by k_is) X T hh F7 N7 (fun p hp => Below.ne bU p hp) (.head _) (hs5.mono fun _ _ => SpanBy.mono fun a o h => .tail _ h) (.tail _ (efr2 ▸ hFR)) hEl hf1l hf2l (by omega) (by omega)
      ⟨by ktr_rel, by ktr_rel, by ktr_rel, by ktr_rel, by ktr_rel⟩ (by ktr_rel) (by ktr_rel) ?_
    rintro h7 tk7 m7 dvs nd rest7 tf7 tb7 F8 N8 hsub7 g7 hd7 mf7 mb7 hm7
    obtain ⟨U, mu7, N8, g7⟩ : ∃ U, m7 (Str.ofString "due") = some (.ref U) ∧ News s.heap L _ ((U, lst dvs nd) :: rest7) ∧ ∀ p ∈ rest7, p.1 ≠ U := ⟨_, (hm7 _ (by decide) (by decide) (by decide)).trans (by ktr_rel), N8, g7⟩
    have hup := fun z (h1 : z ≠ Str.ofString "front") (h2 : z ≠ Str.ofString "begin") (h3 : z ≠ Str.ofString "place") => hm7 z h1 h2 h3
    obtain ⟨b1, b2, b3⟩ := dueLoop_all (Pr := fun _ => True) (lim := lim) (f1 := f1) (f2 := f2) (E := E) (sp := sp) (fun _ _ _ _ => trivial) sp.length
    have hbe := due_begin (lim := lim) (f1 := f1) (f2 := f2) (E := E) (sp := sp) (sp.length - 1)
    rw [show sp.length - 1 + 1 = sp.length by omega] at hbe
    have hfl7 : (dueLoop lim f1 f2 E sp sp.length).2.1.length ≤ 100000 := by
      rcases b2 with q | q <;> rw [q] <;> assumption
    have hdl := strsAre_length hd7
    dsimp only
    refine fin (s := ⟨_, s.gens, s.drawn, _, s.os⟩) (S := S) (ns := ns) (by k_is) X T F8 N8 g7 (hsub7 _ (.head _)) (hs5.mono fun _ _ => SpanBy.mono fun a o h => hsub7 _ (.tail _ h)) hta (b := (dueLoop lim f1 f2 E sp sp.length).2.2) (by omega) hEl hfl7 (by omega) (by omega) (by omega)
      mu7 ((hup _ (by decide) (by decide) (by decide)).trans (by ktr_rel)) ((hup _ (by decide) (by decide) (by decide)).trans (by ktr_rel)) mf7 mb7 ((hup _ (by decide) (by decide) (by decide)).trans (by ktr_rel)) ((hup _ (by decide) (by decide) (by decide)).trans (by ktr_rel)) ((hup _ (by decide) (by decide) (by decide)).trans (by ktr_rel)) ?_
    rintro h9 tk9 m9 D9 t9 news9 F9 N9
    refine hR _ _ D9 _ 0 _ F9.keep (fun p hp => ⟨(N9 p hp).1, (N9 p hp).2.2⟩) (.inl (.head _)) ?_
    have efill : filled rows (rows.map rowText) lim = (rows.map rowText).take (bareRows rows) ++ ((dueLoop lim f1 f2 E sp sp.length).1 ++ [(dueLoop lim f1 f2 E sp sp.length).2.1 ++ Txt.slice E (some ((spAt sp (dueLoop lim f1 f2 E sp sp.length).2.2).1 : Int)) (some ((spAt sp (sp.length - 1)).2 : Int))]) ++ (rows.map rowText).drop (bareRows rows + (runRows rows).length) := by
      unfold filled
      rw [erun]
      dsimp only
      rw [← erun, ← ef1, ← ef2, ← epl]
      unfold dueOf
      rw [← eE, ← esp]
    rw [efill]
    exact strsAre_append (strsAre_append (htv.take' _) (strsAre_append hd7 (.cons _ _ .nil))) (htv.drop' _)
end
section
section
variable {w : World} {A : Around} {E : Value → Shared → Prop} {s : Shared} {h₀ : Heap} {L : Addr} {m mg mb : Str → Option Value} {news : List (Addr × Obj)}
theorem call_deal {sa : Addr} {sv : List Value} {script : List Int} {q : Nat} {tq : Tok} {Q : Value → Shared → Prop} (F : Fr h₀ L s.heap m) (N : News h₀ L s.heap news) (X₀ : (hd.heap_39 w.params).In h₀) (T₀ : TR mg mb h₀) (hroom : A.depth < recursionLimit) (hh : A.handled = none)
    (hd' : h₀.IsList sa sv.toArray) (hi : IntsAre sv script) (hl : script.length ≤ 1000) (hq0 : 1 ≤ q) (hq : q ≤ 1000)
    (h : ∀ h' tk d dv n deal, Fr h₀ L h' m → News h₀ L h' ((d, lst dv n) :: news) → (∀ q ∈ news, q.1 ≠ d) → IntsAre dv deal → deal.length ≤ q → Q (.ref d) { s with heap := h', toks := tk }) :
    wpAny (model PySem.Challenge.rw_sc0019_01.prog w) A (call (.ref 81) [.ref sa, .int (q : Int) tq] []) Q E s :=
  wpAny_call (code_deal (X₀.keeps F.keep) (T₀.keeps F.keep) hroom hh (by obtain ⟨o, e, r⟩ := hd'; exact ⟨o, F.keep _ _ e, r⟩) hi hl hq0 hq fun h' tk d dv n deal k hd1 hd2 hi' hl' => h h' tk d dv n deal (Fr.ext F k) (fun p hp => by
    rcases List.mem_cons.mp hp with rfl | hp
    · refine ⟨hd1, fun e => ?_, ?_⟩
      · obtain ⟨o, _, _, ho, _⟩ := F.ns
        dsimp only at e
        rw [e, ho] at hd2; cases hd2
      · cases q' : h₀.get? d with
        | none => rfl
        | some o => have := F.keep _ _ q'; rw [hd2] at this; cases this
    · exact News.ext N k p hp) (fun q hq e => by have := (N q hq).1; rw [e, hd2] at this; cases this) hi' hl')
/-- what a call has made joins the ledger -/
theorem news_join {h' : Heap} {led : List (Addr × Obj)} (F : Fr h₀ L s.heap m) (N : News h₀ L s.heap news) (k : s.heap.StaysIn h') (hl : ∀ p ∈ led, h'.get? p.1 = some p.2 ∧ s.heap.get? p.1 = none) : News h₀ L h' (led ++ news) := by
  intro p hp
  rcases List.mem_append.mp hp with hp | hp
  · obtain ⟨h1, h2⟩ := hl p hp
    refine ⟨h1, fun e => ?_, ?_⟩
    · obtain ⟨o, _, _, ho, _⟩ := F.ns
      rw [e, ho] at h2; cases h2
    · cases q' : h₀.get? p.1 with
      | none => rfl
      | some o => have := F.keep _ _ q'; rw [h2] at this; cases this
  · exact News.ext N k p hp
theorem news_apart {h' : Heap} {led : List (Addr × Obj)} (N : News h₀ L s.heap news) (hl : ∀ p ∈ led, h'.get? p.1 = some p.2 ∧ s.heap.get? p.1 = none) : ∀ p ∈ led, ∀ q ∈ news, p.1 ≠ q.1 := by
  intro p hp q hq e
  have h1 := (hl p hp).2
  rw [e, (N q hq).1] at h1; cases h1
theorem call_rows {da : Addr} {dv : List Value} {n : Nat} {deal : List Int} {total : Int} {tt : Tok} {Q : Value → Shared → Prop} (F : Fr h₀ L s.heap m) (N : News h₀ L s.heap news) (X₀ : (hd.heap_39 w.params).In h₀) (T₀ : TR mg mb h₀) (hroom : A.depth + 3 < recursionLimit) (hh : A.handled = none)
    (hm : (da, lst dv n) ∈ news) (hi : IntsAre dv deal) (hl : deal.length ≤ 100)
    (h : ∀ h' tk r led, Fr h₀ L h' m → News h₀ L h' (led ++ news) → (∀ p ∈ led, ∀ q ∈ news, p.1 ≠ q.1) → RowsBy (InL led) r (rowsOf deal total) → Q (.ref r) { s with heap := h', toks := tk }) :
    wpAny (model PySem.Challenge.rw_sc0019_01.prog w) A (call (.ref 95) [.ref da, .int total tt] []) Q E s :=
  wpAny_call (code_rows (X₀.keeps F.keep) (T₀.keeps F.keep) hroom hh ⟨_, News.get N hm, rfl, n, rfl⟩ hi hl fun h' tk r led k hl' hr => h h' tk r led (Fr.ext F k) (news_join F N k hl') (news_apart N hl') hr)
theorem call_filled {R ta : Addr} {rows : List PRow} {tvs : List Value} {tn : Nat} {lim : Int} {u : Tok} {Q : Value → Shared → Prop} (F : Fr h₀ L s.heap m) (N : News h₀ L s.heap news) (X₀ : (hd.heap_39 w.params).In h₀) (T₀ : TR mg mb h₀) (hroom : A.depth < recursionLimit) (hh : A.handled = none)
    (hR : RowsBy (InL news) R rows) (hta : (ta, lst tvs tn) ∈ news) (htv : StrsAre tvs (rows.map rowText)) (hok : ∀ r ∈ rows, LRow r) (hne : rows ≠ []) (htal : tally rows ≤ 25)
    (h : ∀ h' tk r fvs n led, Fr h₀ L h' m → News h₀ L h' (led ++ news) → (∀ p ∈ led, ∀ q ∈ news, p.1 ≠ q.1) → (r, lst fvs n) ∈ led ++ news → StrsAre fvs (filled rows (rows.map rowText) lim) → Q (.ref r) { s with heap := h', toks := tk }) :
    wpAny (model PySem.Challenge.rw_sc0019_01.prog w) A (call (.ref 100) [.ref R, .ref ta, .int lim u] []) Q E s := by
  obtain ⟨vs, nr, hRv, hvs⟩ := hR
  refine wpAny_call (code_filled (texts := []) (X₀.keeps F.keep) (T₀.keeps F.keep) hroom hh hok hne htal (News.get N hRv) (hvs.mono fun _ _ => RowBy.mono fun a o h => News.get N h) (News.get N hta) htv fun h' tk r fvs n led k hl' hc hst => h h' tk r fvs n led (Fr.ext F k) (news_join F N k hl') (news_apart N hl') ?_ hst)
  rcases hc with q | ⟨rfl, rfl, rfl⟩
  · exact List.mem_append.mpr (.inl q)
  · exact List.mem_append.mpr (.inr hta)
end
section
open PyProof.Rows.LCg
variable {prog : Program} {w : World} {A : Around} {E : Value → Shared → Prop} {s : Shared} {h₀ : Heap} {L : Addr} {m : Str → Option Value} {env : Env} {news : List (Addr × Obj)}
/-- as rest_U; an element's own heap is known by its ledger alone -/
theorem rest_V {β : Type} {elt : Expr} {x : Str} {scope : Scope} {cl : List (Str × Addr)} {S : List (Addr × Obj) → Prop} {P : Nat → Value → Prop} {Fin : List Value → List (Addr × Obj) → Prop} (bs : List β) (G : Value → β → Prop) (hS : S news)
    (elts : ∀ i b v I oI C oC D m₂ h tk (E' : Value → Shared → Prop) ys, bs[i]? = some b → P i v → NsObj oC m₂ → m₂ x = some v → Fr h₀ L h m → News h₀ L h ((I, oI) :: (C, oC) :: (D, LCg.lst ys) :: news) →
      wpAny (model prog w) A (eval elt (compEnvC scope cl C env)) (fun y s' => G y b ∧ ∃ h' tk', s' = { s with heap := h', toks := tk' } ∧ Fr h₀ L h' m ∧ News h₀ L h' ((I, oI) :: (C, oC) :: (D, LCg.lst ys) :: news)) E' { s with heap := h, toks := tk })
    (fin : ∀ ys, All2 G ys bs → Fin ys news) : ∀ k i ys, i + k = bs.length → All2 G ys (bs.take i) → CompRest prog w A h₀ L m env elt x scope cl s S P Fin k i ys news
  | 0, i, ys, hk, hy => by
    rw [show i = bs.length by omega, List.take_length] at hy
    exact CompRest.zero (fin ys hy)
  | k + 1, i, ys, hk, hy => by
    refine CompRest.succ fun v I oI C oC D m₂ h tk E' hP hC hx F N off ne => ?_
    have hb : bs[i]? = some bs[i] := List.getElem?_eq_getElem (by omega)
    refine wpAny_mono (elts i _ v I oI C oC D m₂ h tk E' ys hb hP hC hx F N) (fun y s' hy' => ?_) fun _ _ e => e
    obtain ⟨hg, h', tk', rfl, F', N'⟩ := hy'
    refine CompEnd.intro F' N' news (fun p hp => hp) off hS (rest_V bs G hS elts fin k (i + 1) (ys ++ [y]) (by omega) ?_)
    rw [List.take_add_one, hb]
    exact hy.app (.one hg)
end
end
section
/-! the headers, and rules for the rest of the law -/
def lawHeads : List Str := [Str.ofString "", Str.ofString "#", Str.ofString "  ##", Str.ofString "\t#"]
def headAt (k : Nat) : Str := lawHeads.getD k Str.empty
def aheadOf (y : Str) : Str := Txt.mul (Str.ofString "%") (y.length : Int)
def headOk (y : Str) : Bool := Nat.ble y.length 4 && ((aheadOf y).length == y.length) && !(tl (aheadOf y)).contains 10
theorem lawHeads_ok : lawHeads.all headOk = true := by decide +kernel
theorem head_ok {k : Nat} (hk : k < 4) : (headAt k).length ≤ 4 ∧ (aheadOf (headAt k)).length = (headAt k).length ∧ 10 ∉ tl (aheadOf (headAt k)) := by
  have hm : headAt k ∈ lawHeads := by
    unfold headAt
    have hl : lawHeads.length = 4 := rfl
    rw [List.getD_eq_getElem?_getD, List.getElem?_eq_getElem (by omega)]
    exact List.getElem_mem _
  have := List.all_eq_true.mp lawHeads_ok _ hm
  unfold headOk at this
  simp only [Bool.and_eq_true, Bool.not_eq_true', Nat.ble_eq, beq_iff_eq, List.contains_eq_mem, decide_eq_false_iff_not] at this
  exact ⟨this.1.1, this.1.2, this.2⟩
section
variable {prog : Program} {w : World} {A : Around} {E : Value → Shared → Prop} {s : Shared} {h₀ : Heap} {L : Addr} {m : Str → Option Value} {news : List (Addr × Obj)}
theorem w_mulone {n : Nat} {t u : Tok} {Q : Value → Shared → Prop} (hn : n ≤ 1000) (h : ∀ t' k, Q (.str (Txt.mul (Str.ofString "%") (n : Int)) t') { s with toks := k }) : wpAny (model prog w) A (binaryOp .Mult (.str (Str.ofString "%") t) (.int (n : Int) u)) Q E s := by
  refine SB.mul ⟨?_, fun h1 _ => ?_, fun h1 _ => ?_⟩ h
  · rw [Bool.or_eq_false_iff, decide_eq_false_iff_not, decide_eq_false_iff_not]
    omega
  · have e1 : ((Str.ofString "%").length : Int) = 1 := rfl
    rw [e1]
    have hp : (0 : Int) < (n : Int) := by omega
    have : (1 : Int) ≤ (2 ^ 63 - 1) / (n : Int) := by
      rw [Int.le_ediv_iff_mul_le hp]
      omega
    omega
  · unfold Builtin.Str.tooLong
    rw [decide_eq_false_iff_not]
    have e1 : (Str.ofString "%").length = 1 := rfl
    have e2 : sizeLine = 16777216 := sizeLine_eq
    rw [e1, e2]
    omega
theorem w_eqone {a b : Addr} {vs : List Value} {xs : List Str} {x : Str} {t : Tok} {n k : Nat} {Q : Value → Shared → Prop} (ha : s.heap.get? a = some (lst vs n)) (hx : StrsAre vs xs) (hb : s.heap.get? b = some (lst [.str x t] k)) (hu : A.units < cLine)
    (h : Q (.bool (decide (xs = [x]))) s) : wpAny (model prog w) A (compareOp .Eq (.ref a) (.ref b)) Q E s := by
  by_cases hl : xs.length = 1
  · obtain ⟨y, rfl⟩ := List.length_eq_one_iff.mp hl
    cases hx with
    | cons _ ty hr =>
      cases hr
      refine PySem.P.eq_list (items := #[.str y ty]) (items2 := #[.str x t]) (n := n) (n2 := k) (e := fun _ => y.cps.toList == x.cps.toList) ha hb rfl (fun j h1 h2 => ?_) hu ?_
      · have hj : j = 0 := by simp at h1; omega
        subst hj
        exact SeqRoads2.EqGives.str y x ty t
      · have e : ((List.range (#[Value.str y ty] : Array Value).size).all fun _ => y.cps.toList == x.cps.toList) = decide ([y] = [x]) := by
          have e1 : ((List.range (#[Value.str y ty] : Array Value).size).all fun _ => y.cps.toList == x.cps.toList) = (y.cps.toList == x.cps.toList) := by simp
          rw [e1, Bool.eq_iff_iff, beq_iff_eq, decide_eq_true_eq]
          constructor
          · intro q; rw [tl_inj (x := y) (y := x) q]
          · intro q; rw [List.singleton_inj.mp q]
        rw [e]; exact h
  · refine PySem.P.eq_list_lengths (items := vs.toArray) (items2 := #[.str x t]) (n := n) (n2 := k) ha hb ?_ hu ?_
    · have := strsAre_length hx
      rw [bne_iff_ne, List.size_toArray]
      show vs.length ≠ 1
      omega
    · have e : decide (xs = [x]) = false := by
        rw [decide_eq_false_iff_not]
        intro q; rw [q] at hl; exact hl rfl
      rw [e] at h; exact h
end
/-- the law's ledger: its two cells, and what lies beside them -/
theorem cells_apart {h₀ h : Heap} {L : Addr} {led rest : List (Addr × Obj)} {oh oa : Obj} (N : News h₀ L h (led ++ ((L + 1, oh) :: (L + 1 + 1, oa) :: rest))) (hl : ∀ p ∈ led, ∀ q ∈ (L + 1, oh) :: (L + 1 + 1, oa) :: rest, p.1 ≠ q.1) (h1 : ∀ p ∈ rest, p.1 ≠ L + 1) (h2 : ∀ p ∈ rest, p.1 ≠ L + 1 + 1) :
    News h₀ L h ((L + 1, oh) :: (L + 1 + 1, oa) :: (led ++ rest)) ∧ (∀ p ∈ led ++ rest, p.1 ≠ L + 1) ∧ ∀ p ∈ led ++ rest, p.1 ≠ L + 1 + 1 := by
  refine ⟨News.sub N fun p hp => ?_, fun p hp => ?_, fun p hp => ?_⟩
  · rcases List.mem_cons.mp hp with rfl | hp
    · exact List.mem_append.mpr (.inr (.head _))
    rcases List.mem_cons.mp hp with rfl | hp
    · exact List.mem_append.mpr (.inr (.tail _ (.head _)))
    rcases List.mem_append.mp hp with hp | hp
    · exact List.mem_append.mpr (.inl hp)
    · exact List.mem_append.mpr (.inr (.tail _ (.tail _ hp)))
  · rcases List.mem_append.mp hp with hp | hp
    · exact hl p hp (L + 1, oh) (.head _)
    · exact h1 p hp
  · rcases List.mem_append.mp hp with hp | hp
    · exact hl p hp (L + 1 + 1, oa) (.tail _ (.head _))
    · exact h2 p hp
end
section
local macro_rules | `(tactic| walk_at "subscriptTail Name Constant ref int") => `(tactic| k_dflt (first | (refine w_tupitem (by frow_left) (by decide) (by decide) rfl ?_) | (refine w_listitem (by frow_left) (by decide) (by decide) rfl ?_)))
set_option pp.maxSteps 3000 in
set_option maxHeartbeats 8000000 in
theorem law_texts : ∀ {w : World} {A : Around} {s : Shared} {h₀ : Heap} {mg mb : Str → Option Value} {L R fa : Addr} {cd : Value} {m : Str → Option Value} {news : List (Addr × Obj)} {rows : List PRow} {P : Flow → Shared → Prop}
    {name qual : Str} {params : Arguments} {body : List Stmt} {scope : Scope} {dV kV doc pm cdv ct ow : Value} {an od : Option Addr} {osl : Array (Option Value)}
    (ho : (hd.heap_39 w.params).lookup 105 = some ⟨ow, od, .func (fnOf name qual params body scope dV kV doc pm an cdv ct), osl⟩)
    (X₀ : (hd.heap_39 w.params).In h₀) (T₀ : TR mg mb h₀) (hh : A.handled = none) (F : Fr h₀ L s.heap m) (N : News h₀ L s.heap news)
    (hR : RowsBy (InL news) R rows) (hok : ∀ r ∈ rows, LRow r) (htal : tally rows ≤ 25) (mr : m (Str.ofString "rows") = some (.ref R))
    (hP : ∀ h' tk D tvs n, Fr h₀ L h' (fun z => if z = Str.ofString "texts" then some (.ref D) else m z) → News h₀ L h' ((D, lst tvs n) :: news) → StrsAre tvs (rows.map rowText) → P .next { s with heap := h', toks := tk }),
    wpAny (model PySem.Challenge.rw_sc0019_01.prog w) (A.deeper (envOfC qual scope L fa cd)) (exec (nthS body 3) (envOfC qual scope L fa cd)) P (fun _ _ => False) s := by
  k_fill
  intro w A s h₀ mg mb L R fa cd m news rows P name qual params body scope dV kV doc pm cdv ct ow an od osl ho X₀ T₀ hh F N hR hok htal mr hP
  obtain ⟨rfl, rfl, rfl, rfl⟩ := fn_inj ho (by k_is)
  dsimp only [nthS]
  clear ho
  obtain ⟨vs, nr, hRv, hvs⟩ := hR
  have hvl : vs.length = rows.length := hvs.length
  have hrl : rows.length ≤ 25 := by
    have hlen : ∀ l : List PRow, l.length ≤ tally l := by
      intro l
      induction l with
      | nil => exact Nat.le_refl _
      | cons a r ih =>
        have e : tally (a :: r) = (a.2.length + 1) + tally r := by unfold tally; rw [List.map_cons, List.sum_cons]
        rw [List.length_cons, e]; omega
    exact Nat.le_trans (hlen rows) htal
  refine LCg.Assign_ListComp_U (F₀ := F) (by rfl) (by with_unfolding_all rfl) (by with_unfolding_all rfl) (by decide) (by rfl) (by decide) (by rfl) (by rfl) (by rfl) ?_
  refine endv ?_
  back_in
  refine LCg.CompSrc.ledger hh F N hRv (by rw [sizeLine_eq, List.size_toArray]; omega) (fun g => ?_)
  refine rest_V rows (fun v b => ∃ t, v = .str (rowText b) t) (.inr ⟨_, hRv, rfl, _, rfl⟩) ?_ ?_ _ 0 [] (by rw [List.size_toArray]; omega) .nil
  · intro i r v I oI C oC D m₂ h tk E' ys hb hPv hC hx F2 N2
    obtain ⟨v', hv', a, n, t1, pa, ps, k, rfl, ha, hpa, hps⟩ := hvs.get hb
    have hv : v = .ref a := by
      have : vs[i]? = some v := by simpa using hPv
      rw [hv'] at this; exact (Option.some.inj this).symm
    subst hv
    have hrm : r ∈ rows := List.mem_of_getElem? hb
    have hL := hok r hrm
    have hlead : r.1.length ≤ 2 := by have := hL.short; rw [tl_len] at this; exact this
    have htx : (rowText r).length ≤ 2 + 10 * r.2.length := text_len hok r hrm
    have hsmall := hL.small
    have hjl : (Txt.join (Str.ofString "") (r.2.map fun p => p.1 ++ p.2)).length ≤ 10 * r.2.length := by
      have e : rowText r = r.1 ++ Txt.join (Str.ofString "") (r.2.map fun p => p.1 ++ p.2) := rfl
      have h2 : ∀ l : List Pair, (∀ p ∈ l, (tl p.1).length + (tl p.2).length ≤ 10) → (tl (pairText l)).length ≤ 10 * l.length := by
        intro l
        induction l with
        | nil => intro _; exact Nat.le_refl _
        | cons p l ih =>
          intro hl
          have h1 := ih fun q hq => hl q (List.mem_cons_of_mem _ hq)
          have h2 := hl p (List.mem_cons_self ..)
          rw [pairText_cons, List.length_append, List.length_append, List.length_cons]; omega
      have h3 := h2 r.2 hsmall
      rw [tl_len] at h3
      exact h3
    have hr2 : r.2.length ≤ 25 := by
      have : ∀ l : List PRow, ∀ z ∈ l, z.2.length ≤ tally l := by
        intro l
        induction l with
        | nil => intro z hz; cases hz
        | cons a l ih =>
          intro z hz
          have e : tally (a :: l) = (a.2.length + 1) + tally l := by unfold tally; rw [List.map_cons, List.sum_cons]
          rcases List.mem_cons.mp hz with rfl | hz
          · omega
          · have := ih z hz; omega
      exact Nat.le_trans (this rows r hrm) htal
    have hpsl : ps.length ≤ 25 := by rw [hps.length]; exact hr2
    refine endv ?_
    iterate 11 (walk1; (try dsimp only))
    refine LCp.ListComp_P (F₀ := F2) (by with_unfolding_all rfl) (by decide) (by rfl) (by decide) (by rfl) (by rfl) (by decide) ?_
    refine endv ?_
    iterate 4 (walk1; (try dsimp only))
    refine LCp.SrcLP.ledger hh F2 N2 (.tail _ (.tail _ (.tail _ hpa))) (by rw [sizeLine_eq, List.size_toArray]; omega) (fun g2 => ?_)
    refine rest_P r.2 (fun v p => ∃ t, v = .str (p.1 ++ p.2) t) (.inr ⟨_, .tail _ (.tail _ (.tail _ hpa)), rfl, _, rfl⟩) ?_ ?_ _ 0 [] (by rw [List.size_toArray, hps.length]; omega) .nil
    · intro j p v hb2 hPv2
      obtain ⟨v', hv2, ta, nt, q1, q2, rfl, hta⟩ := hps.get hb2
      have hv : v = .ref ta := by
        have : ps[j]? = some v := by simpa using hPv2
        rw [hv2] at this; exact (Option.some.inj this).symm
      subst hv
      refine ⟨ta, _, .str p.1 q1, .str p.2 q2, nt, rfl, .tail _ (.tail _ (.tail _ hta)), rfl, rfl, fun I2 oI2 C2 oC2 D2 m3 h3 tk3 E3 ys3 hC3 hx3 hy3 F3 N3 => ?_⟩
      have hpl : p.1.length + p.2.length ≤ 16777216 := by
        have := hsmall p (List.mem_of_getElem? hb2)
        rw [tl_len, tl_len] at this; omega
      refine endv ?_
      back_in
      exact ⟨⟨_, rfl⟩, _, _, rfl, fun _ _ e => e⟩
    · intro ys2 hy2 D2 h3 tk3 F3 N3 o3
      have hst := strs_of_all2 (f := fun p : Pair => p.1 ++ p.2) hy2
      have hsz : ((r.2.map fun p => p.1 ++ p.2).map (·.length)).sum + (r.2.map fun p => p.1 ++ p.2).length ≤ 1048576 := by
        have h1 := lens_all (n := 10) (r.2.map fun p => p.1 ++ p.2) (fun x hx => by
          obtain ⟨p, hp, rfl⟩ := List.mem_map.mp hx
          have := hsmall p hp
          rw [tl_len, tl_len] at this
          rw [str_append_len]; exact this)
        rw [List.length_map] at h1 ⊢
        have h2 : ((r.2.map fun p => p.1 ++ p.2).map (·.length)).sum ≤ 10 * r.2.length := h1
        omega
      have hzl : r.1.length + (Txt.join (Str.ofString "") (r.2.map fun p => p.1 ++ p.2)).length ≤ 16777216 := by omega
      back_in
      exact ⟨⟨_, rfl⟩, _, _, rfl, F3, News.sub N3 fun p hp => .tail _ hp⟩
  · intro ys hy D h tk F3 N3 o1
    exact hP _ _ D ys _ F3 N3 (strs_of_all2 hy)
end
section
theorem start_led {h₀ h : Heap} {L d R : Addr} {od oh oa : Obj} {led : List (Addr × Obj)} {rows : List PRow} (N : News h₀ L h (led ++ [(d, od), (L + 1, oh), (L + 1 + 1, oa)])) (hap : ∀ p ∈ led, ∀ q ∈ [(d, od), (L + 1, oh), (L + 1 + 1, oa)], p.1 ≠ q.1) (hdd : ∀ q ∈ [(L + 1, oh), (L + 1 + 1, oa)], q.1 ≠ d)
    (hr : RowsBy (InL led) R rows) : ∃ rest, News h₀ L h ((L + 1, oh) :: (L + 1 + 1, oa) :: rest) ∧ (∀ p ∈ rest, p.1 ≠ L + 1) ∧ (∀ p ∈ rest, p.1 ≠ L + 1 + 1) ∧ RowsBy (InL rest) R rows := by
  refine ⟨led ++ [(d, od)], News.sub N fun p hp => ?_, fun p hp => ?_, fun p hp => ?_, hr.mono fun a o h => List.mem_append.mpr (.inl h)⟩
  · rcases List.mem_cons.mp hp with rfl | hp
    · exact List.mem_append.mpr (.inr (.tail _ (.head _)))
    rcases List.mem_cons.mp hp with rfl | hp
    · exact List.mem_append.mpr (.inr (.tail _ (.tail _ (.head _))))
    rcases List.mem_append.mp hp with hp | hp
    · exact List.mem_append.mpr (.inl hp)
    · rw [List.mem_singleton.mp hp]; exact List.mem_append.mpr (.inr (.head _))
  · rcases List.mem_append.mp hp with hp | hp
    · exact hap p hp (L + 1, oh) (.tail _ (.head _))
    · rw [List.mem_singleton.mp hp]; exact Ne.symm (hdd (L + 1, oh) (.head _))
  · rcases List.mem_append.mp hp with hp | hp
    · exact hap p hp (L + 1 + 1, oa) (.tail _ (.tail _ (.head _)))
    · rw [List.mem_singleton.mp hp]; exact Ne.symm (hdd (L + 1 + 1, oa) (.tail _ (.head _)))
theorem w_sum {prog : Program} {w : World} {A : Around} {E : Value → Shared → Prop} {s : Shared} {h₀ : Heap} {L l : Addr} {m : Str → Option Value} {news : List (Addr × Obj)} {vs : List Value} {n : Nat} {ns : List Int} {Q : Value → Shared → Prop} (F : Fr h₀ L s.heap m) (N : News h₀ L s.heap news) (hh : A.handled = none) (ha : s.heap.get? l = some (lst vs n)) (hi : IntsAre vs ns)
    (h : ∀ h' tk t', Fr h₀ L h' m → News h₀ L h' news → Q (.int ns.sum t') { s with heap := h', toks := tk }) : wpAny (model prog w) A (call (.builtin "sum") [.ref l]) Q E s := LSm.sum_ints F N hh ⟨_, ha, rfl, n, rfl⟩ hi h
local macro_rules | `(tactic| walk_at "call ref") => `(tactic| k_dflt (first | (refine call_deal (q := 24) (by k_asm) (by k_asm) (by k_asm) (by k_asm) (by show _ + 1 < _; omega) (by assumption) (by assumption) (by assumption) (by omega) (by decide) (by decide) (fun h' tk' d' dv' n' deal' F' N' a' i' l' => ?_)) | (refine call_rows (by k_asm) (by k_asm) (by k_asm) (by k_asm) (by show _ + 1 + 3 < _; omega) (by assumption) (by apart_at) (by assumption) (by omega) (fun h' tk' r' led' F' N' a' b' => ?_))))
local macro_rules | `(tactic| walk_at "call builtin:sum") => `(tactic| k_dflt (refine w_sum (by k_asm) (by k_asm) (by assumption) (by frow_left) (by assumption) (fun h' tk' t' F' N' => ?_)))
set_option pp.maxSteps 3000 in
set_option maxHeartbeats 8000000 in
theorem law_start : ∀ {w : World} {A : Around} {s : Shared} {h₀ : Heap} {mg mb : Str → Option Value} {L fa sa : Addr} {cd : Value} {m : Str → Option Value} {oh oa : Obj} {sv : List Value} {script : List Int} {P : Flow → Shared → Prop}
    {name qual : Str} {params : Arguments} {body : List Stmt} {scope : Scope} {dV kV doc pm cdv ct ow : Value} {an od : Option Addr} {osl : Array (Option Value)}
    (ho : (hd.heap_39 w.params).lookup 105 = some ⟨ow, od, .func (fnOf name qual params body scope dV kV doc pm an cdv ct), osl⟩)
    (X₀ : (hd.heap_39 w.params).In h₀) (T₀ : TR mg mb h₀) (hroom : A.depth + 20 < recursionLimit) (hh : A.handled = none) (F : Fr h₀ L s.heap m) (N : News h₀ L s.heap [(L + 1, oh), (L + 1 + 1, oa)])
    (hs : h₀.IsList sa sv.toArray) (hi : IntsAre sv script) (hl : script.length ≤ 63) (ms : m (Str.ofString "script") = some (.ref sa))
    (hP : ∀ h' tk m' R deal rest tt, Fr h₀ L h' m' → News h₀ L h' ((L + 1, oh) :: (L + 1 + 1, oa) :: rest) → (∀ p ∈ rest, p.1 ≠ L + 1) → (∀ p ∈ rest, p.1 ≠ L + 1 + 1) → deal.length ≤ 24 → RowsBy (InL rest) R (rowsOf deal deal.sum) →
      m' (Str.ofString "total") = some (.int deal.sum tt) → m' (Str.ofString "rows") = some (.ref R) → wpAny (model PySem.Challenge.rw_sc0019_01.prog w) (A.deeper (envOfC qual scope L fa cd)) (exec (nthS body 3) (envOfC qual scope L fa cd)) (fun f s' => match f with | .next => wpAny (model PySem.Challenge.rw_sc0019_01.prog w) (A.deeper (envOfC qual scope L fa cd)) (execs (body.drop 4) (envOfC qual scope L fa cd)) P (fun _ _ => False) s' | f => P f s') (fun _ _ => False) { s with heap := h', toks := tk }),
    wpAny (model PySem.Challenge.rw_sc0019_01.prog w) (A.deeper (envOfC qual scope L fa cd)) (execs body (envOfC qual scope L fa cd)) P (fun _ _ => False) s := by
  k_fill
  intro w A s h₀ mg mb L fa sa cd m oh oa sv script P name qual params body scope dV kV doc pm cdv ct ow an od osl ho X₀ T₀ hroom hh F N hs hi hl ms hP
  obtain ⟨rfl, rfl, rfl, rfl⟩ := fn_inj ho (by k_is)
  dsimp only [List.drop, nthS] at hP
  clear ho
  law_side
  rename Fr _ _ _ _ => F1
  rename News _ _ _ _ => N1
  rename RowsBy _ _ _ => hrb
  rename (∀ p ∈ _, ∀ q ∈ _, Prod.fst p ≠ Prod.fst q) => hap
  rename (∀ q ∈ [_, _], Prod.fst q ≠ _) => hdd
  rename (List.length _ ≤ 24) => hdl
  obtain ⟨rest, N1, g1, g2, hrb⟩ := start_led N1 hap hdd hrb
  exact hP _ _ _ _ _ rest _ F1 N1 g1 g2 hdl hrb (by ktr_rel) (by ktr_rel)
end
section
local macro_rules | `(tactic| walk_at "call ref") => `(tactic| k_dflt (first | (refine call_para (by k_asm) (by k_asm) (by k_asm) (by k_asm) (by show _ + 1 + 5 < _; omega) (by assumption) (by ktr_room) (fun h' t' tk' F' N' => ?_)) | (refine call_filled (by k_asm) (by k_asm) (by k_asm) (by k_asm) (by show _ + 1 < _; omega) (by assumption) (RowsBy.mono (fun _ _ h => List.Mem.tail _ (List.Mem.tail _ h)) (by assumption)) (by apart_at) (by assumption) (by assumption) (by assumption) (by assumption) (fun h' tk' r' fv' n' led' F' N' a' b' c' => ?_))))
set_option pp.maxSteps 3000 in
set_option maxHeartbeats 8000000 in
theorem law_check : ∀ {w : World} {A : Around} {s : Shared} {h₀ : Heap} {mg mb : Str → Option Value} {L R ta fa : Addr} {cd : Value} {m : Str → Option Value} {oh oa : Obj} {rest : List (Addr × Obj)} {tvs : List Value} {tn : Nat} {rows : List PRow} {total : Int} {tt : Tok} {P : Flow → Shared → Prop}
    {name qual : Str} {params : Arguments} {body : List Stmt} {scope : Scope} {dV kV doc pm cdv ct ow : Value} {an od : Option Addr} {osl : Array (Option Value)}
    (ho : (hd.heap_39 w.params).lookup 105 = some ⟨ow, od, .func (fnOf name qual params body scope dV kV doc pm an cdv ct), osl⟩)
    (X₀ : (hd.heap_39 w.params).In h₀) (T₀ : TR mg mb h₀) (hroom : A.depth + 20 < recursionLimit) (hh : A.handled = none) (F : Fr h₀ L s.heap m) (N : News h₀ L s.heap ((L + 1, oh) :: (L + 1 + 1, oa) :: rest))
    (g1 : ∀ p ∈ rest, p.1 ≠ L + 1) (g2 : ∀ p ∈ rest, p.1 ≠ L + 1 + 1) (hR : RowsBy (InL rest) R rows) (hta : (ta, lst tvs tn) ∈ rest) (htv : StrsAre tvs (rows.map rowText)) (hok : ∀ r ∈ rows, LRow r) (hne : rows ≠ []) (htal : tally rows ≤ 25)
    (mt : m (Str.ofString "total") = some (.int total tt)) (mr : m (Str.ofString "rows") = some (.ref R)) (mx : m (Str.ofString "texts") = some (.ref ta))
    (hP : ∀ h' tk m' rest' tl, Fr h₀ L h' m' → News h₀ L h' ((L + 1, oh) :: (L + 1 + 1, oa) :: rest') → (∀ p ∈ rest', p.1 ≠ L + 1) → (∀ p ∈ rest', p.1 ≠ L + 1 + 1) → (∀ p ∈ rest, p ∈ rest') →
      m' (Str.ofString "limit") = some (.int (total.fmod 34 - 4) tl) → m' (Str.ofString "total") = some (.int total tt) → m' (Str.ofString "rows") = some (.ref R) → m' (Str.ofString "texts") = some (.ref ta) →
      wpAny (model PySem.Challenge.rw_sc0019_01.prog w) (A.deeper (envOfC qual scope L fa cd)) (execs (body.drop 6) (envOfC qual scope L fa cd)) P (fun _ _ => False) { s with heap := h', toks := tk }),
    wpAny (model PySem.Challenge.rw_sc0019_01.prog w) (A.deeper (envOfC qual scope L fa cd)) (execs (body.drop 4) (envOfC qual scope L fa cd)) P (fun _ _ => False) s := by
  k_fill
  intro w A s h₀ mg mb L R ta fa cd m oh oa rest tvs tn rows total tt P name qual params body scope dV kV doc pm cdv ct ow an od osl ho X₀ T₀ hroom hh F N g1 g2 hR hta htv hok hne htal mt mr mx hP
  obtain ⟨rfl, rfl, rfl, rfl⟩ := fn_inj ho (by k_is)
  dsimp only [List.drop] at hP ⊢
  clear ho
  have htl := texts_lens (f := rowText) (c := 0) hok (fun r _ => by omega)
  have htm : (rows.map rowText).length = rows.length := List.length_map _
  have hts : ((rows.map rowText).map (·.length)).sum + (rows.map rowText).length ≤ 1048576 := by
    have : lens (rows.map rowText) = ((rows.map rowText).map (·.length)).sum := rfl
    omega
  have hjl : (Txt.join (Str.ofString "\n") (rows.map rowText)).length ≤ 600 := by
    have := join_len (rows.map rowText)
    have e : Txt.join nl (rows.map rowText) = Txt.join (Str.ofString "\n") (rows.map rowText) := rfl
    rw [e] at this
    omega
  have hfl := fun l => filled_lens hok l htal
  have hpf := fun l => para_filled hok hne l
  have hfs : ((filled rows (rows.map rowText) (total.fmod 34 - 4)).map (·.length)).sum + (filled rows (rows.map rowText) (total.fmod 34 - 4)).length ≤ 1048576 := Nat.le_trans (hfl _) (by decide)
  have hpf' : para (Txt.join (Str.ofString "\n") (rows.map rowText)) (total.fmod 34 - 4) = Txt.join (Str.ofString "\n") (filled rows (rows.map rowText) (total.fmod 34 - 4)) := hpf _
  back_in
  refine endd (E := fun _ _ => False) (fun f s' => f = .next ∧ ∃ h' tk m' rest' tl, s' = { s with heap := h', toks := tk } ∧ Fr h₀ L h' m' ∧ News h₀ L h' ((L + 1, oh) :: (L + 1 + 1, oa) :: rest') ∧ (∀ p ∈ rest', p.1 ≠ L + 1) ∧ (∀ p ∈ rest', p.1 ≠ L + 1 + 1) ∧ (∀ p ∈ rest, p ∈ rest') ∧
      m' (Str.ofString "limit") = some (.int (total.fmod 34 - 4) tl) ∧ m' (Str.ofString "total") = some (.int total tt) ∧ m' (Str.ofString "rows") = some (.ref R) ∧ m' (Str.ofString "texts") = some (.ref ta)) ?_ (fun _ _ h => h) ?_
  · walk1
    (try dsimp only)
    back_in
    · exfalso
      rename (_ != _) = true => hq
      rw [hpf'] at hq
      simp at hq
    · rename Fr _ _ _ _ => F1
      rename News _ _ _ _ => N1
      rename (∀ p ∈ _, ∀ q ∈ _, Prod.fst p ≠ Prod.fst q) => hap
      obtain ⟨N2, c1, c2⟩ := cells_apart N1 hap g1 g2
      exact ⟨rfl, _, _, _, _, _, rfl, F1, N2, c1, c2, fun p hp => List.mem_append.mpr (.inr hp), by ktr_rel, by ktr_rel, by ktr_rel, by ktr_rel⟩
  · rintro f s₇ ⟨rfl, h₇, tk₇, m', rest', tl, rfl, F3, N3, c1, c2, hsub, ml, mt', mr', mx'⟩
    exact hP _ _ _ _ _ F3 N3 c1 c2 hsub ml mt' mr' mx'
end
section
theorem not_cell {led rest : List (Addr × Obj)} {a b r : Addr} {oh oa : Obj} {vs : List Value} {n : Nat} {x y : Option Value} (hm : (r, lst vs n) ∈ led ++ (a, oh) :: (b, oa) :: rest) (dh : oh.data = .cell x) (da : oa.data = .cell y) : (r, lst vs n) ∈ led ++ rest := by
  rcases List.mem_append.mp hm with q | q
  · exact List.mem_append.mpr (.inl q)
  rcases List.mem_cons.mp q with e | q
  · have : lst vs n = oh := congrArg Prod.snd e
    rw [← this] at dh; cases dh
  rcases List.mem_cons.mp q with e | q
  · have : lst vs n = oa := congrArg Prod.snd e
    rw [← this] at da; cases da
  · exact List.mem_append.mpr (.inr q)
theorem news_swap {h₀ h : Heap} {L : Addr} {a b : Addr × Obj} {rest : List (Addr × Obj)} (N : News h₀ L h (a :: b :: rest)) : News h₀ L h (b :: a :: rest) :=
  News.sub N fun p hp => by
    rcases List.mem_cons.mp hp with rfl | hp
    · exact .tail _ (.head _)
    rcases List.mem_cons.mp hp with rfl | hp
    · exact .head _
    · exact .tail _ (.tail _ hp)
local macro_rules | `(tactic| walk_at "call ref") => `(tactic| k_dflt (first | (refine call_para (by k_asm) (by k_asm) (by k_asm) (by k_asm) (by show _ + 1 + 5 < _; omega) (by assumption) (by ktr_room) (fun h' t' tk' F' N' => ?_)) | (refine call_filled (by k_asm) (by k_asm) (by k_asm) (by k_asm) (by show _ + 1 < _; omega) (by assumption) (RowsBy.mono (fun _ _ h => List.Mem.tail _ (List.Mem.tail _ h)) (by assumption)) (by apart_at) (by assumption) (by assumption) (by assumption) (by assumption) (fun h' tk' r' fv' n' led' F' N' a' b' c' => ?_))))
local macro_rules | `(tactic| walk_at "storeName") => `(tactic| first | (refine c_store (by k_asm) (by k_asm) (fun h' tk' F' N' => ?_)) | (refine c_storeC (by k_asm) (by k_asm) (by fresh_at) (by assumption) (fun h' o' F' N' d' => ?_)) | (refine c_storeC (by k_asm) (news_swap (by k_asm)) (by fresh_at) (by assumption) (fun h' o' F' N' d' => ?_)))
local macro_rules | `(tactic| law_side) => `(tactic| repeat' (first | ((fail_if_success (with_reducible show wpAny _ _ (exec (Stmt.Assign [Expr.Name (Str.ofString "due") _] _ _) _) _ _ _)); (first | (walk1; (try dsimp only)) | (dsimp only; walk1; (try dsimp only))))))
local macro_rules | `(tactic| walk_at "subscriptTail Name BinOp ref int") => `(tactic| fail)
local macro_rules | `(tactic| walk_at "binaryOp Mult str int") => `(tactic| k_dflt (refine w_mulone (by omega) (fun t' k' => ?_)))
set_option pp.maxSteps 3000 in
set_option maxHeartbeats 8000000 in
theorem law_set : ∀ {w : World} {A : Around} {s : Shared} {h₀ : Heap} {mg mb : Str → Option Value} {L R ta fa : Addr} {cd : Value} {m : Str → Option Value} {oh oa : Obj} {rest : List (Addr × Obj)} {tvs : List Value} {tn : Nat} {rows : List PRow} {total lim : Int} {tt tl : Tok} {v₀ v₁ : Option Value} {P : Flow → Shared → Prop}
    {name qual : Str} {params : Arguments} {body : List Stmt} {scope : Scope} {dV kV doc pm cdv ct ow : Value} {an od : Option Addr} {osl : Array (Option Value)}
    (ho : (hd.heap_39 w.params).lookup 105 = some ⟨ow, od, .func (fnOf name qual params body scope dV kV doc pm an cdv ct), osl⟩)
    (X₀ : (hd.heap_39 w.params).In h₀) (T₀ : TR mg mb h₀) (hroom : A.depth + 20 < recursionLimit) (hh : A.handled = none) (F : Fr h₀ L s.heap m) (N : News h₀ L s.heap ((L + 1, oh) :: (L + 1 + 1, oa) :: rest))
    (dh : oh.data = .cell v₀) (da : oa.data = .cell v₁)
    (g1 : ∀ p ∈ rest, p.1 ≠ L + 1) (g2 : ∀ p ∈ rest, p.1 ≠ L + 1 + 1) (hR : RowsBy (InL rest) R rows) (hta : (ta, lst tvs tn) ∈ rest) (htv : StrsAre tvs (rows.map rowText)) (hok : ∀ r ∈ rows, LRow r) (hne : rows ≠ []) (htal : tally rows ≤ 25)
    (mt : m (Str.ofString "total") = some (.int total tt)) (mr : m (Str.ofString "rows") = some (.ref R)) (mx : m (Str.ofString "texts") = some (.ref ta)) (ml : m (Str.ofString "limit") = some (.int lim tl))
    (hP : ∀ k h' tk m' rest' oh' oa' ty ty' tl' dr fvs fn, k < 4 → Fr h₀ L h' m' → News h₀ L h' ((L + 1, oh') :: (L + 1 + 1, oa') :: rest') → oh'.data = .cell (some (.str (headAt k) ty)) → oa'.data = .cell (some (.str (aheadOf (headAt k)) ty')) → (∀ p ∈ rest', p.1 ≠ L + 1) → (∀ p ∈ rest', p.1 ≠ L + 1 + 1) → (∀ p ∈ rest, p ∈ rest') →
      m' (Str.ofString "limit") = some (.int lim tl') → m' (Str.ofString "texts") = some (.ref ta) → m' (Str.ofString "due") = some (.ref dr) → (dr, lst fvs fn) ∈ rest' → StrsAre fvs (filled rows (rows.map rowText) (if (20 : Int) > lim - (headAt k).length then 20 else lim - (headAt k).length)) →
      wpAny (model PySem.Challenge.rw_sc0019_01.prog w) (A.deeper (envOfC qual scope L fa cd)) (execs (body.drop 9) (envOfC qual scope L fa cd)) P (fun _ _ => False) { s with heap := h', toks := tk }),
    wpAny (model PySem.Challenge.rw_sc0019_01.prog w) (A.deeper (envOfC qual scope L fa cd)) (execs (body.drop 6) (envOfC qual scope L fa cd)) P (fun _ _ => False) s := by
  k_fill
  intro w A s h₀ mg mb L R ta fa cd m oh oa rest tvs tn rows total lim tt tl v₀ v₁ P name qual params body scope dV kV doc pm cdv ct ow an od osl ho X₀ T₀ hroom hh F N dh da g1 g2 hR hta htv hok hne htal mt mr mx ml hP
  obtain ⟨rfl, rfl, rfl, rfl⟩ := fn_inj ho (by k_is)
  dsimp only [List.drop] at hP ⊢
  clear ho
  have hm0 : 0 ≤ (total.fdiv 34).fmod 4 := Int.fmod_nonneg_of_pos _ (by decide)
  have hm1 : (total.fdiv 34).fmod 4 < 4 := Int.fmod_lt_of_pos _ (by decide)
  have c1 : L + 1 + 1 ≠ L + 1 := Nat.succ_ne_self _
  have c2 : L + 1 ≠ L + 1 + 1 := Ne.symm (Nat.succ_ne_self _)
  obtain ⟨k, hkd⟩ : ∃ k, ((total.fdiv 34).fmod 4).toNat = k := ⟨_, rfl⟩
  have hk4 : k < 4 := by omega
  obtain ⟨hy4, hya, hy10⟩ := head_ok hk4
  have hP := hP k
  have e : lawHeads.getD ((total.fdiv 34).fmod 4).toNat Str.empty = headAt k := by rw [hkd]; rfl
  generalize headAt k = y at *
  law_side
  refine w_menuS (xs := lawHeads) (by frow_left) (.cons _ _ (.cons _ _ (.cons _ _ (.cons _ _ .nil)))) hm0 hm1 (by decide) (fun t' => ?_)
  rw [e]
  rename Fr _ _ _ _ => F1
  rename News _ _ _ _ => N1
  have N2 := News.sub N1 fun p hp => List.Mem.tail _ hp
  clear N N1 F
  law_side
  rename News _ _ _ ((_, _) :: (_, _) :: _) => N0
  have N1 := news_swap N0
  clear N2
  rename Fr _ _ _ _ => F1
  rename Obj.data _ = Data.cell (some (Value.str (Txt.mul _ _) _)) => da'
  rename Obj.data _ = Data.cell (some (Value.str y _)) => dh'
  obtain ⟨oh', oa', ty, ty', N1, dh', da'⟩ : ∃ oh' oa' ty ty', News h₀ L _ ((L + 1, oh') :: (L + 1 + 1, oa') :: rest) ∧ oh'.data = .cell (some (.str y ty)) ∧ oa'.data = .cell (some (.str (Txt.mul (Str.ofString "%") (y.length : Int)) ty')) := ⟨_, _, _, _, N1, dh', da'⟩
  clear N0
  refine endd (E := fun _ _ => False) (fun f s' => f = .next ∧ ∃ h' tk m' rest' tl' dr fvs fn, s' = { s with heap := h', toks := tk } ∧ Fr h₀ L h' m' ∧ News h₀ L h' ((L + 1, oh') :: (L + 1 + 1, oa') :: rest') ∧ (∀ p ∈ rest', p.1 ≠ L + 1) ∧ (∀ p ∈ rest', p.1 ≠ L + 1 + 1) ∧ (∀ p ∈ rest, p ∈ rest') ∧
      m' (Str.ofString "limit") = some (.int lim tl') ∧ m' (Str.ofString "texts") = some (.ref ta) ∧ m' (Str.ofString "due") = some (.ref dr) ∧ (dr, lst fvs fn) ∈ rest' ∧ StrsAre fvs (filled rows (rows.map rowText) (if (20 : Int) > lim - y.length then 20 else lim - y.length))) ?_ (fun _ _ h => h) ?_
  · walk1
    (try dsimp only)
    back_in
    rename Fr _ _ _ _ => F2
    rename News _ _ _ _ => N2
    rename (∀ p ∈ _, ∀ q ∈ _, Prod.fst p ≠ Prod.fst q) => hap
    rename ((_, lst _ _) ∈ _ ++ _) => hmem
    rename StrsAre _ (filled _ _ _) => hst
    obtain ⟨N3, c3, c4⟩ := cells_apart N2 hap g1 g2
    exact ⟨rfl, _, _, _, _, _, _, _, _, rfl, F2, N3, c3, c4, fun p hp => List.mem_append.mpr (.inr hp), by ktr_rel, by ktr_rel, by ktr_rel, not_cell hmem dh' da', hst⟩
  · rintro f s₇ ⟨rfl, h₇, tk₇, m', rest', tl', dr, fvs, fn, rfl, F3, N3, c3, c4, hsub, ml', mx', md', hdr, hfv⟩
    exact hP _ _ _ _ _ _ _ _ _ _ _ _ hk4 F3 N3 dh' da' c3 c4 hsub ml' mx' md' hdr hfv
end
section
local macro_rules | `(tactic| walk_at "compareOp Eq ref ref") => `(tactic| k_dflt (refine w_eqone (by frow_left) (by assumption) (by frow_left) (by assumption) ?_))
local macro_rules | `(tactic| walk_at "subscriptTail Name UnaryOp ref int") => `(tactic| k_dflt (refine item_last (⟨_, by frow_left, rfl, _, rfl⟩) ?_))
local macro_rules | `(tactic| walk_at "subscriptTail Name Slice str ref") => `(tactic| k_dflt (refine w_sliceNS (by k_asm) (by k_asm) (by ktr_room) (fun h' t' k' F' N' => ?_)))
set_option pp.maxSteps 3000 in
set_option maxHeartbeats 8000000 in
theorem law_told : ∀ {w : World} {A : Around} {s : Shared} {h₀ : Heap} {mg mb : Str → Option Value} {L ta dr fa : Addr} {cd : Value} {m : Str → Option Value} {oh oa : Obj} {rest : List (Addr × Obj)} {fvs : List Value} {fn : Nat} {Fl : List Str} {lim : Int} {tl ty : Tok} {y : Str} {P : Flow → Shared → Prop}
    {name qual : Str} {params : Arguments} {body : List Stmt} {scope : Scope} {dV kV doc pm cdv ct ow : Value} {an od : Option Addr} {osl : Array (Option Value)}
    (ho : (hd.heap_39 w.params).lookup 105 = some ⟨ow, od, .func (fnOf name qual params body scope dV kV doc pm an cdv ct), osl⟩)
    (X₀ : (hd.heap_39 w.params).In h₀) (T₀ : TR mg mb h₀) (hu : (A.deeper (envOfC qual scope L fa cd)).units < cLine) (hh : A.handled = none) (F : Fr h₀ L s.heap m) (N : News h₀ L s.heap ((L + 1, oh) :: (L + 1 + 1, oa) :: rest))
    (dh : oh.data = .cell (some (.str y ty))) (hdr : (dr, lst fvs fn) ∈ rest) (hst : StrsAre fvs Fl) (hfl : lens Fl + Fl.length ≤ 20000) (hne : Fl ≠ []) (hy4 : y.length ≤ 4)
    (ml : m (Str.ofString "limit") = some (.int lim tl)) (mx : m (Str.ofString "texts") = some (.ref ta)) (md : m (Str.ofString "due") = some (.ref dr))
    (hP : ∀ h' tk m' tt, Fr h₀ L h' m' → News h₀ L h' ((L + 1, oh) :: (L + 1 + 1, oa) :: rest) → m' (Str.ofString "limit") = some (.int lim tl) → m' (Str.ofString "texts") = some (.ref ta) → m' (Str.ofString "told") = some (.str (toldOf y Fl) tt) →
      wpAny (model PySem.Challenge.rw_sc0019_01.prog w) (A.deeper (envOfC qual scope L fa cd)) (execs (body.drop 11) (envOfC qual scope L fa cd)) P (fun _ _ => False) { s with heap := h', toks := tk }),
    wpAny (model PySem.Challenge.rw_sc0019_01.prog w) (A.deeper (envOfC qual scope L fa cd)) (execs (body.drop 9) (envOfC qual scope L fa cd)) P (fun _ _ => False) s := by
  k_fill
  intro w A s h₀ mg mb L ta dr fa cd m oh oa rest fvs fn Fl lim tl ty y P name qual params body scope dV kV doc pm cdv ct ow an od osl ho X₀ T₀ hu hh F N dh hdr hst hfl hne hy4 ml mx md hP
  obtain ⟨rfl, rfl, rfl, rfl⟩ := fn_inj ho (by k_is)
  dsimp only [List.drop] at hP ⊢
  clear ho
  have hvl : fvs.length = Fl.length := strsAre_length hst
  have hjl : lens (Fl.map fun z => y ++ z) + (Fl.map fun z => y ++ z).length ≤ 200000 := by
    have h1 : ∀ l : List Str, lens (l.map fun z => y ++ z) ≤ lens l + 4 * l.length := by
      intro l
      induction l with
      | nil => exact Nat.le_refl _
      | cons a r ih =>
        have e1 : lens ((a :: r).map fun z => y ++ z) = (y ++ a).length + lens (r.map fun z => y ++ z) := by unfold lens; rw [List.map_cons, List.map_cons, List.sum_cons]
        have e2 : lens (a :: r) = a.length + lens r := by unfold lens; rw [List.map_cons, List.sum_cons]
        rw [e1, e2, str_append_len, List.length_cons]; omega
    have := h1 Fl
    rw [List.length_map]; omega
  have hjs : ((Fl.map fun z => y ++ z).map (·.length)).sum + (Fl.map fun z => y ++ z).length ≤ 1048576 := Nat.le_trans hjl (by decide)
  have htl : (told0 y Fl).length ≤ 400000 := by
    have := join_len (Fl.map fun z => y ++ z)
    have e : Txt.join nl (Fl.map fun z => y ++ z) = told0 y Fl := rfl
    rw [e] at this
    omega
  have hdr' : (dr, lst fvs fn) ∈ (L + 1, oh) :: (L + 1 + 1, oa) :: rest := .tail _ (.tail _ hdr)
  iterate 30 (first | ((fail_if_success (with_reducible show wpAny _ _ (eval (Expr.ListComp _ _ _ _) _) _ _ _)); walk1; (try dsimp only)) | skip)
  refine LCg.ListComp_U (F₀ := F) (by with_unfolding_all rfl) (by decide) (by rfl) (by decide) (by rfl) ?_
  refine endv ?_
  back_in
  refine LCg.CompSrc.ledger hh F N hdr' (by rw [sizeLine_eq, List.size_toArray]; omega) (fun g => ?_)
  refine rest_U Fl (fun v b => ∃ t, v = .str (y ++ b) t) (.inr ⟨_, hdr', rfl, _, rfl⟩) ?_ ?_ _ 0 [] (by rw [List.size_toArray]; omega) .nil
  · intro i b v I oI C oC D m₂ h tk E' ys hb hPv hC hx F2 N2
    have hil : i < Fl.length := (List.getElem?_eq_some_iff.mp hb).1
    obtain ⟨t, ht⟩ := strsAre_get hst hil
    have hv : v = .str b t := by
      have : fvs[i]? = some v := by simpa using hPv
      have e : b = Fl.getD i Str.empty := by rw [List.getD_eq_getElem?_getD, hb]; rfl
      rw [ht, ← e] at this; exact (Option.some.inj this).symm
    subst hv
    have hbl : b.length ≤ 20000 := by
      have h2 : ∀ l : List Str, ∀ z ∈ l, z.length ≤ lens l := by
        intro l
        induction l with
        | nil => intro z hz; cases hz
        | cons a r ih =>
          intro z hz
          have e2 : lens (a :: r) = a.length + lens r := by unfold lens; rw [List.map_cons, List.sum_cons]
          rcases List.mem_cons.mp hz with rfl | hz
          · omega
          · have := ih z hz; omega
      have := h2 Fl b (List.mem_of_getElem? hb)
      omega
    have hyb : y.length + b.length ≤ 16777216 := by omega
    refine endv ?_
    back_in
    exact ⟨⟨_, rfl⟩, _, _, rfl, fun _ _ e => e⟩
  · intro ys hy D h tk F3 N3 o1
    have hys := strs_of_all2 (f := fun z : Str => y ++ z) hy
    back_in
    rename Fr _ _ _ _ => F4
    rename News _ _ _ _ => N4
    have N5 := News.sub N4 fun p hp => List.Mem.tail _ hp
    clear N4
    rcases PyProof.Rows.strs_nil_or_snoc hst with ⟨_, e⟩ | ⟨vi, yi, z, tz, ev, ec, hvi⟩
    · exact absurd e hne
    change Fr h₀ L _ (fun y_1 => if y_1 = Str.ofString "told" then some (Value.str (told0 y Fl) _) else m y_1) at F4
    refine endd (E := fun _ _ => False) (fun f s' => f = .next ∧ ∃ h' tk m' tt, s' = { s with heap := h', toks := tk } ∧ Fr h₀ L h' m' ∧ News h₀ L h' ((L + 1, oh) :: (L + 1 + 1, oa) :: rest) ∧ m' (Str.ofString "limit") = some (.int lim tl) ∧ m' (Str.ofString "texts") = some (.ref ta) ∧ m' (Str.ofString "told") = some (.str (toldOf y Fl) tt)) ?_ (fun _ _ h => h) ?_
    · subst ev
      walk1
      (try dsimp only)
      back_in
      · rename Fl = [Str.ofString ""] => hF
        rename Fr _ _ _ _ => F6
        rename News _ _ _ _ => N6
        have ht : toldOf y Fl = Str.ofString "\n" := if_pos hF
        rw [ht]
        exact ⟨rfl, _, _, _, _, rfl, F6, News.sub N6 fun p hp => List.Mem.tail _ hp, by ktr_rel, by ktr_rel, if_pos rfl⟩
      · rename ¬Fl = [Str.ofString ""] => hF
        walk1
        (try dsimp only)
        back_in
        · rename (_ == _) = true => hz
          have hz0 : z.length = 0 := by rw [beq_iff_eq.mp hz]; rfl
          rename Fr _ _ _ _ => F6
          rename News _ _ _ _ => N6
          have ht : toldOf y Fl = Txt.slice (told0 y Fl) none (some (((told0 y Fl).length : Int) - (y.length : Int))) := by
            unfold toldOf
            rw [if_neg hF, ec, endsEmpty_snoc, hz0]; rfl
          rw [ht]
          exact ⟨rfl, _, _, _, _, rfl, F6, News.sub N6 fun p hp => List.Mem.tail _ hp, by ktr_rel, by ktr_rel, if_pos rfl⟩
        · rename (_ == _) = false => hz
          have hz0 : (z.length == 0) = false := by
            rw [beq_eq_false_iff_ne]
            intro q
            exact absurd (str_nil q) (fun q => by rw [q] at hz; exact absurd hz (by decide))
          rename Fr _ _ _ _ => F6
          rename News _ _ _ _ => N6
          have ht : toldOf y Fl = told0 y Fl := by
            unfold toldOf
            rw [if_neg hF]
            have : endsEmpty Fl = false := by rw [ec, endsEmpty_snoc]; exact hz0
            rw [this]; rfl
          rw [ht]
          exact ⟨rfl, _, _, _, _, rfl, F6, News.sub N6 fun p hp => List.Mem.tail _ hp, by ktr_rel, by ktr_rel, if_pos rfl⟩
    · rintro f s₇ ⟨rfl, h₇, tk₇, m', tt, rfl, F6, N6, ml', mx', mt'⟩
      exact hP _ _ _ _ F6 N6 ml' mx' mt'
end
section
theorem call_comment {w : World} {A : Around} {E : Value → Shared → Prop} {s : Shared} {h₀ : Heap} {L : Addr} {m mg mb : Str → Option Value} {x y : Str} {t u v : Tok} {lim : Int} {Pt bm : Addr} {ob : Obj} {Q : Value → Shared → Prop} (F : Fr h₀ L s.heap m) (X₀ : (hd.heap_39 w.params).In h₀) (T₀ : TR mg mb h₀)
    (hroom : A.depth + 9 < recursionLimit) (hh : A.handled = none) (hx : x.length ≤ 599) (hy : y.length ≤ 10) (B₀ : Based h₀ h₀ 59 Pt #[]) (M₀ : BMod h₀ mainGlobals mg bm ob) (G : AllBare s.gens)
    (h : ∀ (s' : Shared) t', s'.os = s.os → s'.heap.Ns L m → OldK h₀ s'.heap → AllBare s'.gens → Q (.str (comment x y lim) t') s') :
    wpAny (model PySem.Challenge.rw_sc0019_01.prog w) A (call (.ref 60) [.str x t, .int lim u, .str y v] []) Q E s :=
  wpAny_call (code_comment (X₀.keeps F.keep) (T₀.keeps F.keep) hroom hh hx hy (.start (B₀.code.keeps F.keep) (B₀.tab.keeps F.keep) B₀.notStatics) (M₀.keeps F.keep) G fun s' t' ps' ho hx' hc ht hg => by
    have hLP : L ≠ Pt := fun e => by
      have h1 := Heap.lt_size B₀.tab.2
      have h2 := F.above
      rw [e] at h2
      exact absurd h1 (Nat.not_lt.mpr h2)
    refine h s' t' ho (F.ns.at' fun o e => hx' _ o hLP e) ((OldK.of_keep F.keep).step_table B₀.tab (B₀.tab.keeps F.keep) (more := ps') ?_ hx' B₀.notStatics) hg
    rw [Array.empty_append]
    exact ht)
local macro_rules | `(tactic| law_side) => `(tactic| repeat' (first | ((fail_if_success (with_reducible show wpAny _ _ (eval (Expr.ListComp _ _ _ _) _) _ _ _)); (fail_if_success (with_reducible show wpAny _ _ (call (.ref 60) _ _) _ _ _)); (first | (walk1; (try dsimp only)) | (dsimp only; walk1; (try dsimp only))))))
set_option pp.maxSteps 3000 in
set_option maxHeartbeats 8000000 in
theorem law_ret : ∀ {w : World} {A : Around} {s : Shared} {h₀ : Heap} {mg mb : Str → Option Value} {L ta fa : Addr} {cd : Value} {m : Str → Option Value} {oh oa : Obj} {rest : List (Addr × Obj)} {tvs : List Value} {tn : Nat} {rows : List PRow} {lim : Int} {tlk ty ty' tt : Tok} {y a : Str} {Pt bm : Addr} {ob : Obj} {P : Flow → Shared → Prop}
    {name qual : Str} {params : Arguments} {body : List Stmt} {scope : Scope} {dV kV doc pm cdv ct ow : Value} {an od : Option Addr} {osl : Array (Option Value)}
    (ho : (hd.heap_39 w.params).lookup 105 = some ⟨ow, od, .func (fnOf name qual params body scope dV kV doc pm an cdv ct), osl⟩)
    (X₀ : (hd.heap_39 w.params).In h₀) (T₀ : TR mg mb h₀) (hroom : A.depth + 20 < recursionLimit) (hh : A.handled = none) (F : Fr h₀ L s.heap m) (N : News h₀ L s.heap ((L + 1, oh) :: (L + 1 + 1, oa) :: rest))
    (dh : oh.data = .cell (some (.str y ty))) (da : oa.data = .cell (some (.str a ty'))) (hy4 : y.length ≤ 4) (hal : a.length = y.length) (ha10 : 10 ∉ Mine.tl a) (hta : (ta, lst tvs tn) ∈ rest) (htv : StrsAre tvs (rows.map rowText)) (hok : ∀ r ∈ rows, LRow r) (hne : rows ≠ []) (htal : tally rows ≤ 25)
    (B₀ : Based h₀ h₀ 59 Pt #[]) (M₀ : BMod h₀ mainGlobals mg bm ob) (G : AllBare s.gens)
    (ml : m (Str.ofString "limit") = some (.int lim tlk)) (mx : m (Str.ofString "texts") = some (.ref ta)) (md : m (Str.ofString "told") = some (.str (toldOf y (filled rows (rows.map rowText) (if (20 : Int) > lim - y.length then 20 else lim - y.length))) tt))
    (hP : ∀ s' : Shared, s'.os = s.os → OldK h₀ s'.heap → AllBare s'.gens → P (.ret (.bool true)) s'),
    wpAny (model PySem.Challenge.rw_sc0019_01.prog w) (A.deeper (envOfC qual scope L fa cd)) (execs (body.drop 11) (envOfC qual scope L fa cd)) P (fun _ _ => False) s := by
  k_fill
  intro w A s h₀ mg mb L ta fa cd m oh oa rest tvs tn rows lim tlk ty ty' tt y a Pt bm ob P name qual params body scope dV kV doc pm cdv ct ow an od osl ho X₀ T₀ hroom hh F N dh da hy4 hal ha10 hta htv hok hne htal B₀ M₀ G ml mx md hP
  obtain ⟨rfl, rfl, rfl, rfl⟩ := fn_inj ho (by k_is)
  dsimp only [List.drop] at hP ⊢
  clear ho
  have hvl : tvs.length = (rows.map rowText).length := strsAre_length htv
  have hta' : (ta, lst tvs tn) ∈ (L + 1, oh) :: (L + 1 + 1, oa) :: rest := .tail _ (.tail _ hta)
  have hrl : rows.length ≤ 350 := by
    have := texts_lens (f := rowText) (c := 0) hok (fun r _ => by omega)
    omega
  have hll : ∀ r ∈ rows, (aheadRow a (rowText r)).length ≤ 4 + (rowText r).length := fun r _ => by
    unfold aheadRow
    by_cases h : (rowText r).length = 0
    · rw [if_pos h]; exact Nat.zero_le _
    · rw [if_neg h, str_append_len]; omega
  have hlens := texts_lens (f := fun r => aheadRow a (rowText r)) (c := 4) hok hll
  have hjl : (Txt.join (Str.ofString "\n") ((rows.map rowText).map (aheadRow a))).length ≤ 599 := by
    have := join_len ((rows.map rowText).map (aheadRow a))
    have e : Txt.join nl ((rows.map rowText).map (aheadRow a)) = Txt.join (Str.ofString "\n") ((rows.map rowText).map (aheadRow a)) := rfl
    rw [e, List.length_map, List.length_map, List.map_map] at this
    rw [List.map_map]
    have e2 : lens (List.map (aheadRow a ∘ rowText) rows) = lens (rows.map fun r => aheadRow a (rowText r)) := rfl
    omega
  have hjs : (((rows.map rowText).map (aheadRow a)).map (·.length)).sum + ((rows.map rowText).map (aheadRow a)).length ≤ 1048576 := by
    have e2 : (((rows.map rowText).map (aheadRow a)).map (·.length)).sum = lens (rows.map fun r => aheadRow a (rowText r)) := by simp only [lens, List.map_map]; rfl
    rw [e2, List.length_map, List.length_map]
    omega
  iterate 30 (first | ((fail_if_success (with_reducible show wpAny _ _ (eval (Expr.ListComp _ _ _ _) _) _ _ _)); walk1; (try dsimp only)) | skip)
  refine LCg.ListComp_U (F₀ := F) (by with_unfolding_all rfl) (by decide) (by rfl) (by decide) (by rfl) ?_
  refine endv ?_
  back_in
  refine LCg.CompSrc.ledger hh F N hta' (by rw [sizeLine_eq, List.size_toArray, hvl, List.length_map]; omega) (fun g => ?_)
  refine rest_U (rows.map rowText) (fun v b => ∃ t, v = .str (aheadRow a b) t) (.inr ⟨_, hta', rfl, _, rfl⟩) ?_ ?_ _ 0 [] (by rw [List.size_toArray]; omega) .nil
  · intro i b v I oI C oC D m₂ h tk E' ys hb hPv hC hx F2 N2
    have hil : i < (rows.map rowText).length := (List.getElem?_eq_some_iff.mp hb).1
    obtain ⟨t, ht⟩ := strsAre_get htv hil
    have hv : v = .str b t := by
      have : tvs[i]? = some v := by simpa using hPv
      have e : b = (rows.map rowText).getD i Str.empty := by rw [List.getD_eq_getElem?_getD, hb]; rfl
      rw [ht, ← e] at this; exact (Option.some.inj this).symm
    subst hv
    have hbl : b.length ≤ 1000 := by
      obtain ⟨r, hr, rfl⟩ := List.mem_map.mp (List.mem_of_getElem? hb)
      have h2 : ∀ l : List PRow, ∀ z ∈ l, (rowText z).length ≤ lens (l.map rowText) := by
        intro l
        induction l with
        | nil => intro z hz; cases hz
        | cons a r ih =>
          intro z hz
          rw [List.map_cons, lens_cons]
          rcases List.mem_cons.mp hz with rfl | hz
          · omega
          · have := ih z hz; omega
      have h3 := h2 rows r hr
      have h4 := texts_lens (f := rowText) (c := 0) hok (fun r _ => by omega)
      omega
    have hyb : a.length + b.length ≤ 16777216 := by omega
    refine endv ?_
    back_in
    · rename b.length ≠ 0 => hb0
      exact ⟨⟨_, by rw [aheadRow, if_neg hb0]⟩, _, _, rfl, fun _ _ e => e⟩
    · rename ¬b.length ≠ 0 => hb0
      exact ⟨⟨_, by rw [aheadRow, if_pos (Decidable.not_not.mp hb0)]⟩, _, _, rfl, fun _ _ e => e⟩
  · intro ys hy D h tk F3 N3 o1
    have hys := strs_of_all2 (f := aheadRow a) hy
    law_side
    refine call_comment F3 X₀ T₀ (by show _ + 1 + 9 < _; omega) hh hjl (by omega) B₀ M₀ G (fun s' t' hos hns hold hg => ?_)
    have hc : comment (Txt.join (Str.ofString "\n") ((rows.map rowText).map (aheadRow a))) y lim = toldOf y (filled rows (rows.map rowText) (if (20 : Int) > lim - y.length then 20 else lim - y.length)) := by
      rw [List.map_map]
      exact comment_told hok hne hal ha10 lim
    rw [hc]
    generalize toldOf y (filled rows (rows.map rowText) (if (20 : Int) > lim - y.length then 20 else lim - y.length)) = r at *
    clear F3 N3
    refine wpAny_Name (wpAny_loadName_local rfl rfl hns md ?_) (by decide)
    walk1
    have e : (r == r) = true := by rw [beq_iff_eq]
    rw [e]
    exact hP s' hos hold hg
end
section
set_option pp.maxSteps 3000 in
set_option maxHeartbeats 8000000 in
theorem law_body {w : World} {A : Around} {s : Shared} {h₀ : Heap} {mg mb : Str → Option Value} {L fa sa : Addr} {cd : Value} {m : Str → Option Value} {oh oa : Obj} {v₀ v₁ : Option Value} {sv : List Value} {script : List Int} {Pt bm : Addr} {ob : Obj} {P : Flow → Shared → Prop}
    {name qual : Str} {params : Arguments} {body : List Stmt} {scope : Scope} {dV kV doc pm cdv ct ow : Value} {an od : Option Addr} {osl : Array (Option Value)}
    (ho : (hd.heap_39 w.params).lookup 105 = some ⟨ow, od, .func (fnOf name qual params body scope dV kV doc pm an cdv ct), osl⟩)
    (X₀ : (hd.heap_39 w.params).In h₀) (T₀ : TR mg mb h₀) (hroom : A.depth + 20 < recursionLimit) (hu : (A.deeper (envOfC qual scope L fa cd)).units < cLine) (hh : A.handled = none) (F : Fr h₀ L s.heap m) (N : News h₀ L s.heap [(L + 1, oh), (L + 1 + 1, oa)])
    (dh : oh.data = .cell v₀) (da : oa.data = .cell v₁) (hs : h₀.IsList sa sv.toArray) (hi : IntsAre sv script) (hl : script.length ≤ 63) (ms : m (Str.ofString "script") = some (.ref sa))
    (B₀ : Based h₀ h₀ 59 Pt #[]) (M₀ : BMod h₀ mainGlobals mg bm ob) (G : AllBare s.gens)
    (hP : ∀ s' : Shared, s'.os = s.os → OldK h₀ s'.heap → AllBare s'.gens → P (.ret (.bool true)) s') :
    wpAny (model PySem.Challenge.rw_sc0019_01.prog w) (A.deeper (envOfC qual scope L fa cd)) (execs body (envOfC qual scope L fa cd)) P (fun _ _ => False) s := by
  refine law_start ho X₀ T₀ hroom hh F N hs hi hl ms (fun h' tk m' R deal rest tt F1 N1 g1 g2 hdl hR mt mr => ?_)
  obtain ⟨hok, hne, htal⟩ := rowsOf_ok deal deal.sum
  have htal : tally (rowsOf deal deal.sum) ≤ 25 := by omega
  refine law_texts (s := ⟨h', s.gens, s.drawn, tk, s.os⟩) ho X₀ T₀ hh F1 N1 (hR.mono fun a o h => .tail _ (.tail _ h)) hok htal mr (fun h2 tk2 D tvs n F2 N2 htv => ?_)
  have nD : ∀ (c : Addr) (o : Obj) (v : Option Value), (c, o) ∈ (L + 1, oh) :: (L + 1 + 1, oa) :: rest → o.data = .cell v → D ≠ c := by
    intro c o v hm hd e
    have h1 := (N2 _ (.head _)).1
    have h2 := (N2 _ (.tail _ hm)).1
    dsimp only at h1 h2
    rw [e, h2] at h1
    rw [Option.some.inj h1] at hd
    cases hd
  have d1 := nD (L + 1) oh _ (.head _) dh
  have d2 := nD (L + 1 + 1) oa _ (.tail _ (.head _)) da
  have N3 : News h₀ L h2 ((L + 1, oh) :: (L + 1 + 1, oa) :: (D, lst tvs n) :: rest) := News.sub N2 fun p hp => by
    rcases List.mem_cons.mp hp with rfl | hp
    · exact .tail _ (.head _)
    rcases List.mem_cons.mp hp with rfl | hp
    · exact .tail _ (.tail _ (.head _))
    rcases List.mem_cons.mp hp with rfl | hp
    · exact .head _
    · exact .tail _ (.tail _ (.tail _ hp))
  have g1' : ∀ p ∈ (D, lst tvs n) :: rest, p.1 ≠ L + 1 := List.forall_mem_cons.mpr ⟨d1, g1⟩
  have g2' : ∀ p ∈ (D, lst tvs n) :: rest, p.1 ≠ L + 1 + 1 := List.forall_mem_cons.mpr ⟨d2, g2⟩
  have hR2 : RowsBy (InL ((D, lst tvs n) :: rest)) R (rowsOf deal deal.sum) := hR.mono fun a o h => .tail _ h
  have mt2 : (fun z => if z = Str.ofString "texts" then some (.ref D) else m' z) (Str.ofString "total") = some (.int deal.sum tt) := mt
  have mr2 : (fun z => if z = Str.ofString "texts" then some (.ref D) else m' z) (Str.ofString "rows") = some (.ref R) := mr
  have mx2 : (fun z => if z = Str.ofString "texts" then some (.ref D) else m' z) (Str.ofString "texts") = some (.ref D) := rfl
  refine law_check (s := ⟨h2, s.gens, s.drawn, tk2, s.os⟩) ho X₀ T₀ hroom hh F2 N3 g1' g2' hR2 (.head _) htv hok hne htal mt2 mr2 mx2 (fun h3 tk3 m3 rest3 tl F3 N4 g3 g4 hsub ml3 mt3 mr3 mx3 => ?_)
  refine law_set (s := ⟨h3, s.gens, s.drawn, tk3, s.os⟩) ho X₀ T₀ hroom hh F3 N4 dh da g3 g4 (hR2.mono fun a o h => hsub _ h) (hsub _ (.head _)) htv hok hne htal mt3 mr3 mx3 ml3 (fun k h4 tk4 m4 rest4 oh' oa' ty ty' tl' dr fvs fn hk F4 N5 dh' da' g5 g6 hsub2 ml4 mx4 md4 hdr hfv => ?_)
  obtain ⟨hy4, hya, hy10⟩ := head_ok hk
  refine law_told (s := ⟨h4, s.gens, s.drawn, tk4, s.os⟩) ho X₀ T₀ hu hh F4 N5 dh' hdr hfv (filled_lens hok _ htal) (filled_ne hne _) hy4 ml4 mx4 md4 (fun h5 tk5 m5 tt5 F5 N6 ml5 mx5 mt5 => ?_)
  exact law_ret (s := ⟨h5, s.gens, s.drawn, tk5, s.os⟩) ho X₀ T₀ hroom hh F5 N6 dh' da' hy4 hya hy10 (hsub2 _ (hsub _ (.head _))) htv hok hne htal B₀ M₀ G ml5 mx5 mt5 hP
end
section
set_option maxHeartbeats 8000000 in
theorem based59 {w : World} {mean : ExcName → Option Value} {mg mb : Str → Option Value} {h : Heap} (X : (hd.heap_39 w.params).In h)
    (T : Top hd.view_39 (looseW hd.view_39 [Str.ofString "_twin_re_1", Str.ofString "_twin_re_2", Str.ofString "_twin_re_3"]) mean mg mb h) (hm : mg (Str.ofString "reformat_comment") = some (.ref 60)) : ∃ P, Based h h 59 P #[] := by
  obtain ⟨c, P, e, B⟩ := based_of_top (d := _) T (name := Str.ofString "reformat_comment") (by rfl) hm (X 60 _ rfl) rfl
  cases e
  exact ⟨P, B⟩
end
end
end
end
end Mine
section
open PySem PySem.W PySem.Calls PyProof.Rows Mine
set_option pp.maxSteps 4000 in
set_option maxHeartbeats 8000000 in
theorem PySem.Challenge.cw_sc0019_01_holds : PySem.Challenge.rw_sc0019_01.Holds :=
  Mine.hd (by
  k_fill
  intro w s₀ s₁ mg mb G Y fa o pm cd doc dV kV ho hd hcd hD hmg hg args vals as hpre hlay hrd hwl hlo
  have KX := kIn_of Y
  have V := (Ground.X G).2
  refine Ground.open G ?_
  intro T B D TE TW
  obtain ⟨bm, ob, M⟩ := bmod_of_top T
  clear hmg D
  wrow_args hpre hlay hrd hwl hlo
  refine enter_call ?_
  w_top on
  w_call any ho hd hcd hD T F
  rename (Heap.IsList _ _ _) => hL
  rename (IntsAre _ _) => hI
  rename (News _ _ _ _) => N0
  have hm := mg_of KX T.g (n := Str.ofString "reformat_comment") (v := .ref 60) (by k_is)
  obtain ⟨Pt, B₀⟩ := based59 KX T hm
  refine wpAny_mono (law_body (A := callerA) (s := ⟨_, _, _, _, _⟩) (P := fun fl s' => fl = .ret (.bool true) ∧ s'.os = s₁.os ∧ OldK s₁.heap s'.heap ∧ AllBare s'.gens) (by k_is) KX (topRead_of T) (by decide) (Nat.le_of_ble_eq_true rfl) rfl F (news_swap N0) (by assumption) (by assumption) hL hI (by omega) ?ms B₀ M ?G (fun s' h1 h2 h3 => ⟨rfl, h1, h2, h3⟩)) (fun fl s' h => ?fin) (fun _ _ h => h.elim)
  case ms => rfl
  case G => rw [hg]; exact .empty
  obtain ⟨rfl, h1, h2, h3⟩ := h
  refine ⟨.inl ⟨.bool true, .bool true, [], rfl, fun _ => rfl, ReadsW.bool true, ?post, fun _ => ⟨.nil, fun _ q => nomatch q⟩⟩, h2, h1, h3⟩
  case post => first | wrow_post | rfl)
end
