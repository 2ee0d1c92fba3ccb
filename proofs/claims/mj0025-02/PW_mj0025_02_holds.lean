import PyProof.Rows.All
import Wide.All
import OpenK.AllK
import Wide.FinOn
import PySem.Challenge.RW_mj0025_02
set_option maxRecDepth 100000
set_option linter.all false
set_option Elab.async false
set_option maxHeartbeats 8000000

-- part RxA
namespace Mine
open PySem PySem.Sre PySem.Sre.M
def rxCode : Array Nat := #[14, 4, 0, 8, 4294967295, 24, 5, 0, 4294967295, 2, 1, 16, 70, 16, 76, 16, 65, 16, 71, 16, 83, 16, 32, 16, 40, 17, 0, 24, 6, 0, 4294967295, 20, 41, 1, 17, 1, 16, 41, 1]
inductive Steps : Nat → Sre.M → Sre.M → Prop
  | refl (m : Sre.M) : Steps 0 m m
  | cons {k : Nat} {m m' : Sre.M} : m.outcome = none → Steps k m.step m' → Steps (k + 1) m m'
theorem Steps.trans {k l : Nat} {a b c : Sre.M} (h : Steps k a b) (h' : Steps l b c) : Steps (k + l) a c := by
  induction h with
  | refl m => rw [Nat.zero_add]; exact h'
  | cons ho _ ih => rw [Nat.add_right_comm]; exact .cons ho (ih h')
theorem Steps.one {m m' : Sre.M} (ho : m.outcome = none) (e : m.step = m') : Steps 1 m m' := .cons ho (e ▸ .refl _)
theorem Steps.next {k : Nat} {m m₁ m' : Sre.M} (ho : m.outcome = none) (e : m.step = m₁) (h : Steps k m₁ m') : Steps (k + 1) m m' := .cons ho (e ▸ h)
theorem Steps.runFor {k : Nat} {m m' : Sre.M} (h : Steps k m m') : m'.outcome.isSome = true → ∀ n, k ≤ n → m.runFor n = m' := by
  induction h with
  | refl m =>
    intro ho n _
    cases n with
    | zero => rfl
    | succ n => simp [M.runFor, ho]
  | cons h0 _ ih =>
    intro ho n hn
    cases n with
    | zero => omega
    | succ n => simp only [M.runFor, h0]; exact ih ho n (by omega)
theorem Steps.part {k : Nat} {m m' : Sre.M} (h : Steps k m m') : ∀ n, n ≤ k → Steps (k - n) (m.runFor n) m' := by
  induction h with
  | refl m => intro n hn; obtain rfl : n = 0 := by omega
              exact .refl _
  | @cons k a b h0 h1 ih =>
    intro n hn
    cases n with
    | zero => exact .cons h0 h1
    | succ n =>
      have := ih n (by omega)
      simp only [M.runFor, h0, Option.isSome_none, Bool.false_eq_true, if_false]
      rwa [show k + 1 - (n + 1) = k - n by omega]
theorem Steps.none {k : Nat} {m m' : Sre.M} (h : Steps (k + 1) m m') : m.outcome = none := by cases h with | cons h _ => exact h
abbrev rxSt (text : Array Nat) (pc pos handed : Nat) (marks : Array (Option Nat)) (lastmark lastindex : Int) (frames : List Sre.Frame) (weight : Nat) (answer : Option Bool) (seen : Seen) : Sre.M :=
  { code := rxCode, text, lim := text.size, start := 0, lastStart := 0, wholeText := false, mustAdvance := false, pc, pos, handed, outermost := true, marks, lastmark, lastindex, loops := #[], inner := none, frames, weight, answer, seen, outcome := none }
section
variable {text : Array Nat} {pos handed : Nat} {marks : Array (Option Nat)} {lm li : Int} {fs : List Sre.Frame} {wt : Nat} {seen : Seen}
theorem step_lit (pc c : Nat) (hpc : pc < 39) (hop : ops[rxCode.getD pc 0]? = some .LITERAL) (hc : rxCode.getD (pc + 1) 0 = c) :
    (rxSt text pc pos handed marks lm li fs wt none seen).step =
      if pos < text.size ∧ text.getD pos 0 = c then rxSt text (pc + 2) (pos + 1) handed marks lm li fs wt none (seen.add (rxCode.getD pc 0))
      else rxSt text pc pos handed marks lm li fs wt (some false) (seen.add (rxCode.getD pc 0)) := by
  have h39 : pc < rxCode.size := hpc
  have hw : itemWidth rxCode pc = 2 := by simp only [itemWidth, hop]
  simp only [M.step, Option.isSome_none, Bool.false_eq_true, if_false, h39, if_true, M.exec, M.word, Nat.add_zero, hop, accepts, hc, hw]
  by_cases h1 : pos < text.size
  · have h2 : ¬ pos ≥ text.size := by omega
    simp only [h1, h2, if_false, true_and]
    by_cases h3 : text.getD pos 0 = c
    · have h4 : (text.getD pos 0 == c) = true := by rw [h3]; exact beq_self_eq_true c
      simp only [h4, if_pos h3]
    · have h4 : (text.getD pos 0 == c) = false := by rw [Bool.eq_false_iff]; intro x; exact h3 (beq_iff_eq.mp x)
      simp only [h4, M.say, if_neg h3]
  · have h2 : pos ≥ text.size := by omega
    simp only [h1, h2, if_true, false_and, if_false, M.say]
theorem step_success :
    (rxSt text 38 pos handed marks lm li fs wt none seen).step = rxSt text 38 pos pos marks lm li fs wt (some true) (seen.add 1) := by
  rfl
theorem step_mark0 {a b : Option Nat} :
    (rxSt text 25 pos handed #[a, b] (-1) li fs wt none seen).step = rxSt text 27 pos handed #[some pos, b] 0 li fs wt none (seen.add 17) := by
  rfl
theorem step_mark1 {a b : Option Nat} :
    (rxSt text 34 pos handed #[a, b] 0 li fs wt none seen).step = rxSt text 36 pos handed #[a, some pos] 1 1 fs wt none (seen.add 17) := by
  have e : (rxSt text 34 pos handed #[a, b] 0 li fs wt none seen).step = (rxSt text 34 pos handed #[a, b] 0 li fs wt none (seen.add 17)).mark 1 := rfl
  rw [e]
  have h : max (0 : Int) 1 = 1 := by decide
  simp [M.mark, h]
def runLen (f : Nat → Bool) : Nat → Nat → Nat
  | 0, _ => 0
  | n + 1, p => if f p then runLen f n (p + 1) + 1 else 0
theorem runLen_le (f : Nat → Bool) : ∀ n p, runLen f n p ≤ n
  | 0, _ => Nat.le_refl _
  | n + 1, p => by
    unfold runLen
    split
    · exact Nat.succ_le_succ (runLen_le f n (p + 1))
    · exact Nat.zero_le _
theorem runLen_in (f : Nat → Bool) : ∀ n p j, p ≤ j → j < p + runLen f n p → f j = true
  | 0, p, j, h1, h2 => by simp only [runLen] at h2; omega
  | n + 1, p, j, h1, h2 => by
    unfold runLen at h2
    split at h2
    · rename_i hf
      by_cases e : j = p
      · rw [e]; exact hf
      · exact runLen_in f n (p + 1) j (by omega) (by omega)
    · omega
theorem runLen_end (f : Nat → Bool) : ∀ n p, runLen f n p < n → f (p + runLen f n p) = false
  | 0, p, h => absurd h (Nat.not_lt_zero _)
  | n + 1, p, h => by
    unfold runLen at h ⊢
    split
    · rename_i hf
      rw [if_pos hf] at h
      have := runLen_end f n (p + 1) (by omega)
      rwa [show p + (runLen f n (p + 1) + 1) = p + 1 + runLen f n (p + 1) by omega]
    · rename_i hf; simpa using hf
theorem run_of {i : Nat} {g : Nat → Bool} (h : ∀ c seen, accepts rxCode i c seen = .ok (g c, seen)) :
    ∀ n p found, Sre.run rxCode text i n p found seen = .ok (found + runLen (fun j => g (text.getD j 0)) n p, seen)
  | 0, p, found => by simp only [Sre.run, runLen]; rfl
  | n + 1, p, found => by
    unfold Sre.run runLen
    rw [h]
    show (if g (text.getD p 0) = true then Sre.run rxCode text i n (p + 1) (found + 1) seen else pure (found, seen)) = _
    split
    · rw [run_of h n (p + 1) (found + 1)]
      rw [show found + 1 + runLen (fun j => g (text.getD j 0)) n (p + 1) = found + (runLen (fun j => g (text.getD j 0)) n (p + 1) + 1) by omega]
    · rfl
abbrev notNl (text : Array Nat) : Nat → Bool := fun j => text.getD j 0 != 10
abbrev notShut (text : Array Nat) : Nat → Bool := fun j => text.getD j 0 != 41
def kept1 : Sre.Kept := { lastmark := -1, lastindex := -1 }
def kept2 : Sre.Kept := { lastmark := 0, lastindex := -1 }
def fr1 (p : Nat) : Sre.Frame := { wait := .giveBack, pc := 5, pos := p, outermost := true, count := p, kept := kept1 }
def fr2 (q r : Nat) : Sre.Frame := { wait := .giveBack, pc := 27, pos := r, outermost := true, count := (r : Int) - q, kept := kept2 }
theorem step_rep1 (hsz : text.size ≤ 16777216) :
    (rxSt text 5 0 handed marks (-1) (-1) [] 0 none seen).step =
      rxSt text 11 (runLen (notNl text) text.size 0) (runLen (notNl text) text.size 0) marks (-1) (-1) [fr1 (runLen (notNl text) text.size 0)] 1 none ((seen.add 24).add 2) := by
  have hr := run_of (text := text) (seen := (seen.add 24).add 2) (i := 9) (g := fun c => c != 10) (fun c seen => rfl) (min 4294967295 text.size) 0 0
  have hm : min 4294967295 text.size = text.size := by omega
  rw [hm] at hr
  have e1 : ((text.size : Int) - ((0 : Nat) : Int)).toNat = text.size := by omega
  have o : ops[24]? = some .REPEAT_ONE := rfl
  have w1 : rxCode.getD (5 + 1) 0 = 5 := rfl
  have w2 : rxCode.getD (5 + 2) 0 = 0 := rfl
  have w3 : rxCode.getD (5 + 3) 0 = 4294967295 := rfl
  have w4 : rxCode.getD (5 + 4) 0 = 2 := rfl
  have w0 : rxCode.getD (5 + 0) 0 = 24 := rfl
  have h39 : 5 < rxCode.size := by decide
  have g0 : ¬ (((0 : Nat) : Int) > (text.size : Int) - ((0 : Nat) : Int)) := by omega
  simp only [M.step, Option.isSome_none, Bool.false_eq_true, if_false, h39, if_true, M.exec, M.word, o, w0, w1, w2, w3, w4, g0, e1, hm, hr, Nat.zero_add, Nat.not_lt_zero, M.afterRun, M.attempt, M.keep, M.frame]
  rfl
theorem step_rep2 {p : Nat} (hsz : text.size ≤ 16777216) (hp : pos ≤ text.size) :
    (rxSt text 27 pos handed marks 0 (-1) [fr1 p] 1 none seen).step =
      rxSt text 34 (pos + runLen (notShut text) (text.size - pos) pos) (pos + runLen (notShut text) (text.size - pos) pos) marks 0 (-1) [fr2 pos (pos + runLen (notShut text) (text.size - pos) pos), fr1 p] 2 none ((seen.add 24).add 20) := by
  have hr := run_of (text := text) (seen := (seen.add 24).add 20) (i := 31) (g := fun c => c != 41) (fun c seen => rfl) (text.size - pos) pos 0
  have e1 : ((text.size : Int) - (pos : Int)).toNat = text.size - pos := by omega
  have hm : min 4294967295 (text.size - pos) = text.size - pos := by omega
  have o : ops[24]? = some .REPEAT_ONE := rfl
  have w1 : rxCode.getD (27 + 1) 0 = 6 := rfl
  have w2 : rxCode.getD (27 + 2) 0 = 0 := rfl
  have w3 : rxCode.getD (27 + 3) 0 = 4294967295 := rfl
  have w4 : rxCode.getD (27 + 4) 0 = 20 := rfl
  have w0 : rxCode.getD (27 + 0) 0 = 24 := rfl
  have h39 : 27 < rxCode.size := by decide
  have g0 : ¬ (((0 : Nat) : Int) > (text.size : Int) - (pos : Int)) := by omega
  simp only [M.step, Option.isSome_none, Bool.false_eq_true, if_false, h39, if_true, M.exec, M.word, o, w0, w1, w2, w3, w4, g0, e1, hm, hr, Nat.zero_add, Nat.not_lt_zero, M.afterRun, M.attempt, M.keep, M.frame]
  have e2 : ((runLen (notShut text) (text.size - pos) pos : Nat) : Int) = ((pos + runLen (notShut text) (text.size - pos) pos : Nat) : Int) - pos := by omega
  show _ = rxSt text 34 _ _ marks 0 (-1) [{ wait := .giveBack, pc := 27, pos := _, outermost := true, count := ((pos + runLen (notShut text) (text.size - pos) pos : Nat) : Int) - pos, kept := kept2 }, fr1 p] 2 none _
  rw [← e2]
  rfl
theorem back1 {p pc : Nat} : (rxSt text pc pos handed marks lm li [fr1 p] 1 (some false) seen).step =
    if p = 0 then rxSt text 5 0 handed marks (-1) (-1) [] 0 (some false) seen else rxSt text 11 (p - 1) (p - 1) marks (-1) (-1) [fr1 (p - 1)] 1 none seen := by
  have w1 : rxCode.getD (5 + 1) 0 = 5 := rfl
  have w2 : rxCode.getD (5 + 2) 0 = 0 := rfl
  by_cases h : p = 0
  · subst h
    rfl
  · have e : (p : Int) - 1 = ((p - 1 : Nat) : Int) := by omega
    have g : ¬ (((p - 1 : Nat) : Int) < ((0 : Nat) : Int)) := by omega
    simp only [M.step, Option.isSome_none, Bool.false_eq_true, if_false, fr1, M.resume, M.word, w1, w2, e, g, h, M.putBack, kept1, M.afterRun, M.attempt, M.frame]
    rfl
theorem back2 {p q r pc : Nat} (hq : q ≤ r) : (rxSt text pc pos handed marks lm li [fr2 q r, fr1 p] 2 (some false) seen).step =
    if r = q then rxSt text 27 r handed marks 0 (-1) [fr1 p] 1 (some false) seen else rxSt text 34 (r - 1) (r - 1) marks 0 (-1) [fr2 q (r - 1), fr1 p] 2 none seen := by
  have w1 : rxCode.getD (27 + 1) 0 = 6 := rfl
  have w2 : rxCode.getD (27 + 2) 0 = 0 := rfl
  by_cases h : r = q
  · subst h
    have g : ((r : Int) - r - 1 < ((0 : Nat) : Int)) := by omega
    simp only [M.step, Option.isSome_none, Bool.false_eq_true, if_false, fr2, M.resume, M.word, w1, w2, g, if_true, M.putBack, kept2, M.say]
    rfl
  · have e : (r : Int) - q - 1 = ((r - 1 : Nat) : Int) - q := by omega
    have g : ¬ (((r - 1 : Nat) : Int) - q < ((0 : Nat) : Int)) := by omega
    simp only [M.step, Option.isSome_none, Bool.false_eq_true, if_false, fr2, M.resume, M.word, w1, w2, e, g, h, M.putBack, kept2, M.afterRun, M.attempt, M.frame]
    rfl
theorem yes2 {p q r pc : Nat} : (rxSt text pc pos handed marks lm li [fr2 q r, fr1 p] 2 (some true) seen).step = rxSt text 27 r handed marks lm li [fr1 p] 1 (some true) seen := rfl
theorem yes1 {p pc : Nat} : (rxSt text pc pos handed marks lm li [fr1 p] 1 (some true) seen).step = rxSt text 5 p handed marks lm li [] 0 (some true) seen := rfl
theorem finT {pc : Nat} : (rxSt text pc pos handed marks lm li [] wt (some true) seen).step = { rxSt text pc pos handed marks lm li [] wt (some true) seen with outcome := some .matched } := rfl
theorem finF {pc : Nat} : (rxSt text pc pos handed marks lm li [] wt (some false) seen).step = { rxSt text pc pos handed marks lm li [] wt (some false) seen with outcome := some .failed } := rfl
def LitsAt (text : Array Nat) (p : Nat) : List Nat → Prop
  | [] => True
  | c :: r => (p < text.size ∧ text.getD p 0 = c) ∧ LitsAt text (p + 1) r
def flagsLits : List Nat := [70, 76, 65, 71, 83, 32, 40]
abbrev FlagsAt (text : Array Nat) (p : Nat) : Prop := LitsAt text p flagsLits
/-- the seven literals: either all through, or an answer of no -/
theorem lits_go (mk : Array (Option Nat)) : ∀ (cs : List Nat) (pc pos : Nat) (seen : Seen), (∀ i, i < cs.length → pc + 2 * i < 39 ∧ ops[rxCode.getD (pc + 2 * i) 0]? = some .LITERAL ∧ rxCode.getD (pc + 2 * i + 1) 0 = cs.getD i 0) →
    (LitsAt text pos cs → ∃ seen', Steps cs.length (rxSt text pc pos handed mk lm li fs wt none seen) (rxSt text (pc + 2 * cs.length) (pos + cs.length) handed mk lm li fs wt none seen')) ∧
    (¬ LitsAt text pos cs → ∃ k pc' pos' seen', k ≤ cs.length ∧ Steps k (rxSt text pc pos handed mk lm li fs wt none seen) (rxSt text pc' pos' handed mk lm li fs wt (some false) seen'))
  | [], pc, pos, seen, _ => ⟨fun _ => ⟨seen, .refl _⟩, fun h => absurd trivial h⟩
  | c :: cs, pc, pos, seen, H => by
    obtain ⟨h1, h2, h3⟩ := H 0 (by simp)
    simp only [Nat.mul_zero, Nat.add_zero, List.getD_cons_zero] at h1 h2 h3
    have st := step_lit (text := text) (pos := pos) (handed := handed) (marks := mk) (lm := lm) (li := li) (fs := fs) (wt := wt) (seen := seen) pc c h1 h2 h3
    by_cases hc : pos < text.size ∧ text.getD pos 0 = c
    · rw [if_pos hc] at st
      obtain ⟨ih1, ih2⟩ := lits_go mk cs (pc + 2) (pos + 1) (seen.add (rxCode.getD pc 0)) (fun i hi => by
        have := H (i + 1) (by simp; omega)
        rw [show pc + 2 * (i + 1) = pc + 2 + 2 * i by omega, List.getD_cons_succ] at this
        exact this)
      refine ⟨fun h => ?_, fun h => ?_⟩
      · obtain ⟨seen', S⟩ := ih1 h.2
        refine ⟨seen', ?_⟩
        rw [show pc + 2 * (c :: cs).length = pc + 2 + 2 * cs.length by simp; omega, show pos + (c :: cs).length = pos + 1 + cs.length by simp; omega]
        exact .cons rfl (st ▸ S)
      · obtain ⟨k, pc', pos', seen', hk, S⟩ := ih2 (fun h' => h ⟨hc, h'⟩)
        exact ⟨k + 1, pc', pos', seen', by simp; omega, .cons rfl (st ▸ S)⟩
    · rw [if_neg hc] at st
      exact ⟨fun h => absurd h.1 hc, fun _ => ⟨1, _, _, _, by simp, .one rfl st⟩⟩
structure Won (m : Sre.M) (b e : Nat) : Prop where
  out : m.outcome = some .matched
  marks : m.marks = #[some b, some e]
  lastmark : m.lastmark = 1
  lastindex : m.lastindex = 1
  start : m.start = 0
  handed : m.handed = e + 1
theorem tail_ok {p q r : Nat} {a b : Option Nat} (hr : r < text.size) (h41 : text.getD r 0 = 41) :
    ∃ m', Steps 6 (rxSt text 34 r handed #[a, b] 0 (-1) [fr2 q r, fr1 p] 2 none seen) m' ∧ m'.outcome = some .matched ∧ m'.marks = #[a, some r] ∧ m'.lastmark = 1 ∧ m'.lastindex = 1 ∧ m'.start = 0 ∧ m'.handed = r + 1 := by
  have s2 := step_lit (text := text) (pos := r) (handed := handed) (marks := #[a, some r]) (lm := 1) (li := 1) (fs := [fr2 q r, fr1 p]) (wt := 2) (seen := seen.add 17) 36 41 (by decide) rfl rfl
  rw [if_pos ⟨hr, h41⟩] at s2
  refine ⟨_, .next rfl step_mark1 (.next rfl s2 (.next rfl step_success (.next rfl yes2 (.next rfl yes1 (.next rfl finT (.refl _)))))), rfl, rfl, rfl, rfl, rfl, rfl⟩
theorem tail_fail {p q : Nat} {a : Option Nat} : ∀ (n r : Nat) (b : Option Nat) (handed : Nat) (seen : Seen), r = q + n → (∀ j, q ≤ j → j ≤ r → ¬ (j < text.size ∧ text.getD j 0 = 41)) →
    ∃ k b' h' seen', k ≤ 3 * (n + 1) ∧ Steps k (rxSt text 34 r handed #[a, b] 0 (-1) [fr2 q r, fr1 p] 2 none seen) (rxSt text 27 q h' #[a, b'] 0 (-1) [fr1 p] 1 (some false) seen')
  | n, r, b, handed, seen, hr, H => by
    have s2 := step_lit (text := text) (pos := r) (handed := handed) (marks := #[a, some r]) (lm := 1) (li := 1) (fs := [fr2 q r, fr1 p]) (wt := 2) (seen := seen.add 17) 36 41 (by decide) rfl rfl
    rw [if_neg (H r (by omega) (Nat.le_refl _))] at s2
    have s3 := back2 (text := text) (pos := r) (handed := handed) (marks := #[a, some r]) (lm := 1) (li := 1) (seen := (seen.add 17).add (rxCode.getD 36 0)) (p := p) (q := q) (r := r) (pc := 36) (by omega)
    have S3 : ∀ m', (rxSt text 36 r handed #[a, some r] 1 1 [fr2 q r, fr1 p] 2 (some false) ((seen.add 17).add (rxCode.getD 36 0))).step = m' → Steps 3 (rxSt text 34 r handed #[a, b] 0 (-1) [fr2 q r, fr1 p] 2 none seen) m' := fun m' e =>
      .next rfl step_mark1 (.next rfl s2 (.one rfl e))
    cases n with
    | zero =>
      obtain rfl : r = q := by omega
      rw [if_pos rfl] at s3
      exact ⟨3, _, _, _, by omega, S3 _ s3⟩
    | succ n =>
      rw [if_neg (by omega)] at s3
      obtain ⟨k, b', h', seen', hk, S⟩ := tail_fail n (r - 1) (some r) (r - 1) ((seen.add 17).add (rxCode.getD 36 0)) (by omega) (fun j h1 h2 => H j h1 (by omega))
      exact ⟨3 + k, b', h', seen', by omega, (S3 _ s3).trans S⟩
structure Hit (text : Array Nat) (p e : Nat) : Prop where
  flags : FlagsAt text p
  ge : p + 7 ≤ e
  lt : e < text.size
  shut : text.getD e 0 = 41
  first : ∀ j, p + 7 ≤ j → j < e → text.getD j 0 ≠ 41
theorem FlagsAt.le {p : Nat} (h : FlagsAt text p) : p + 7 ≤ text.size := by
  obtain ⟨_, _, _, _, _, _, h7, _⟩ := h
  omega
theorem lits_ok : ∀ i, i < flagsLits.length → 11 + 2 * i < 39 ∧ ops[rxCode.getD (11 + 2 * i) 0]? = some .LITERAL ∧ rxCode.getD (11 + 2 * i + 1) 0 = flagsLits.getD i 0
  | 0, _ => ⟨by decide, rfl, rfl⟩
  | 1, _ => ⟨by decide, rfl, rfl⟩
  | 2, _ => ⟨by decide, rfl, rfl⟩
  | 3, _ => ⟨by decide, rfl, rfl⟩
  | 4, _ => ⟨by decide, rfl, rfl⟩
  | 5, _ => ⟨by decide, rfl, rfl⟩
  | 6, _ => ⟨by decide, rfl, rfl⟩
  | n + 7, h => absurd h (by show ¬ n + 7 < 7; omega)
theorem one_try (hsz : text.size ≤ 16777216) {p : Nat} {a b : Option Nat} (seen : Seen) :
    ∃ k m', k ≤ 3 * text.size + 19 ∧ Steps k (rxSt text 11 p handed #[a, b] (-1) (-1) [fr1 p] 1 none seen) m' ∧
      (((∀ e, ¬ Hit text p e) ∧ ∃ pc' pos' h' a' b' lm' li' seen', m' = rxSt text pc' pos' h' #[a', b'] lm' li' [fr1 p] 1 (some false) seen') ∨ ∃ e, Hit text p e ∧ Won m' (p + 7) e) := by
  obtain ⟨g1, g2⟩ := lits_go (text := text) (handed := handed) (lm := -1) (li := -1) (fs := [fr1 p]) (wt := 1) #[a, b] flagsLits 11 p seen lits_ok
  by_cases hf : FlagsAt text p
  · obtain ⟨seen', S⟩ := g1 hf
    have hle := hf.le
    have S : Steps 7 _ (rxSt text 25 (p + 7) handed #[a, b] (-1) (-1) [fr1 p] 1 none seen') := S
    have S2 := S.trans (.next rfl step_mark0 (.one rfl (step_rep2 hsz hle)))
    have h1 := runLen_le (notShut text) (text.size - (p + 7)) (p + 7)
    have h2 := runLen_in (notShut text) (text.size - (p + 7)) (p + 7)
    have h3 := runLen_end (notShut text) (text.size - (p + 7)) (p + 7)
    generalize hn : runLen (notShut text) (text.size - (p + 7)) (p + 7) = n at S2 h1 h2 h3
    have ne : ∀ j, p + 7 ≤ j → j < p + 7 + n → text.getD j 0 ≠ 41 := fun j a b => by
      have := h2 j a b
      simpa [notShut] using this
    by_cases hr : p + 7 + n < text.size
    · have h41 : text.getD (p + 7 + n) 0 = 41 := by
        have := h3 (by omega)
        simpa [notShut] using this
      obtain ⟨m', S3, o1, o2, o3, o4, o5, o6⟩ := tail_ok (text := text) (handed := p + 7 + n) (seen := ((seen'.add 17).add 24).add 20) (p := p) (q := p + 7) (r := p + 7 + n) (a := some (p + 7)) (b := b) hr h41
      exact ⟨7 + (1 + 1) + 6, m', by omega, S2.trans S3, .inr ⟨p + 7 + n, ⟨hf, by omega, hr, h41, ne⟩, ⟨o1, o2, o3, o4, o5, o6⟩⟩⟩
    · obtain ⟨k, b', h', seen2, hk, S3⟩ := tail_fail (text := text) (p := p) (q := p + 7) (a := some (p + 7)) n (p + 7 + n) b (p + 7 + n) (((seen'.add 17).add 24).add 20) rfl (fun j a b c => by
        by_cases hj : j < p + 7 + n
        · exact ne j a hj c.2
        · omega)
      refine ⟨7 + (1 + 1) + k, _, by omega, S2.trans S3, .inl ⟨fun e he => ?_, _, _, _, _, _, _, _, _, rfl⟩⟩
      exact ne e he.ge (by have := he.lt; omega) he.shut
  · obtain ⟨k, pc', pos', seen', hk, S⟩ := g2 hf
    exact ⟨k, _, by have : k ≤ 7 := hk; omega, S, .inl ⟨fun e he => hf he.flags, _, _, _, _, _, _, _, _, rfl⟩⟩
theorem all_tries (hsz : text.size ≤ 16777216) : ∀ (p handed : Nat) (a b : Option Nat) (seen : Seen),
    ∃ k m', k ≤ (p + 1) * (3 * text.size + 21) ∧ Steps k (rxSt text 11 p handed #[a, b] (-1) (-1) [fr1 p] 1 none seen) m' ∧
      (((∀ p' e, p' ≤ p → ¬ Hit text p' e) ∧ m'.outcome = some .failed) ∨ ∃ p' e, p' ≤ p ∧ Hit text p' e ∧ (∀ p'' e', p' < p'' → p'' ≤ p → ¬ Hit text p'' e') ∧ Won m' (p' + 7) e) := by
  intro p
  induction p with
  | zero =>
    intro handed a b seen
    obtain ⟨k, m', hk, S, h⟩ := one_try (text := text) (handed := handed) hsz (p := 0) (a := a) (b := b) seen
    rcases h with ⟨h1, pc', pos', h', a', b', lm', li', seen', rfl⟩ | ⟨e, h1, h2⟩
    · have s1 := back1 (text := text) (pos := pos') (handed := h') (marks := #[a', b']) (lm := lm') (li := li') (seen := seen') (p := 0) (pc := pc')
      rw [if_pos rfl] at s1
      refine ⟨k + 2, _, by omega, S.trans (.next rfl s1 (.one rfl finF)), .inl ⟨fun p' e hp => ?_, rfl⟩⟩
      obtain rfl : p' = 0 := by omega
      exact h1 e
    · exact ⟨k, m', by omega, S, .inr ⟨0, e, Nat.le_refl _, h1, fun p'' e' a b => by omega, h2⟩⟩
  | succ p ih =>
    intro handed a b seen
    obtain ⟨k, m', hk, S, h⟩ := one_try (text := text) (handed := handed) hsz (p := p + 1) (a := a) (b := b) seen
    have hB : (p + 1 + 1) * (3 * text.size + 21) = (p + 1) * (3 * text.size + 21) + (3 * text.size + 21) := by rw [Nat.succ_mul]
    rcases h with ⟨h1, pc', pos', h', a', b', lm', li', seen', rfl⟩ | ⟨e, h1, h2⟩
    · have s1 := back1 (text := text) (pos := pos') (handed := h') (marks := #[a', b']) (lm := lm') (li := li') (seen := seen') (p := p + 1) (pc := pc')
      rw [if_neg (by omega)] at s1
      obtain ⟨k2, m2, hk2, S2, h3⟩ := ih p a' b' seen'
      refine ⟨k + 1 + k2, m2, by omega, (S.trans (.one rfl s1)).trans S2, ?_⟩
      rcases h3 with ⟨h4, h5⟩ | ⟨p', e, h4, h5, h6, h7⟩
      · refine .inl ⟨fun p' e hp => ?_, h5⟩
        by_cases hp' : p' = p + 1
        · subst hp'; exact h1 e
        · exact h4 p' e (by omega)
      · refine .inr ⟨p', e, by omega, h5, fun p'' e' x y => ?_, h7⟩
        by_cases hp' : p'' = p + 1
        · subst hp'; exact h1 e'
        · exact h6 p'' e' x (by omega)
    · exact ⟨k, m', by omega, S, .inr ⟨p + 1, e, Nat.le_refl _, h1, fun p'' e' a b => by omega, h2⟩⟩
def Reach (text : Array Nat) (p : Nat) : Prop := ∀ j, j < p → text.getD j 0 ≠ 10
theorem Hit.le8 {p e : Nat} (h : Hit text p e) : p + 8 ≤ text.size := by
  have := h.ge; have := h.lt; omega
theorem rx_run (hsz : text.size ≤ 16777216) : ∃ k m', k ≤ 1125899906842624 ∧ Steps k (Sre.forMatch rxCode text 1 0 text.size false false) m' ∧
    (((∀ p e, Reach text p → ¬ Hit text p e) ∧ m'.outcome = some .failed) ∨ ∃ p e, Reach text p ∧ Hit text p e ∧ (∀ p' e', p < p' → Reach text p' → ¬ Hit text p' e') ∧ Won m' (p + 7) e) := by
  by_cases h8 : text.size < 8
  · have e : Sre.forMatch rxCode text 1 0 text.size false false = rxSt text 5 0 0 #[none, none] (-1) (-1) [] 0 (some false) (({} : Seen).add 14) := by
      show (if ((8 != 0) && decide (0 ≤ text.size) && decide (text.size - 0 < 8)) = true then (rxSt text 5 0 0 #[none, none] (-1) (-1) [] 0 none (({} : Seen).add 14)).say false else _) = _
      rw [if_pos (by simp; omega)]
      rfl
    rw [e]
    exact ⟨1, _, by omega, .one rfl finF, .inl ⟨fun p e _ he => by have := he.le8; omega, rfl⟩⟩
  · have e : Sre.forMatch rxCode text 1 0 text.size false false = rxSt text 5 0 0 #[none, none] (-1) (-1) [] 0 none (({} : Seen).add 14) := by
      show (if ((8 != 0) && decide (0 ≤ text.size) && decide (text.size - 0 < 8)) = true then _ else (rxSt text 5 0 0 #[none, none] (-1) (-1) [] 0 none (({} : Seen).add 14))) = _
      rw [if_neg (by simp; omega)]
    rw [e]
    have h1 := runLen_le (notNl text) text.size 0
    have h2 := runLen_in (notNl text) text.size 0
    have h3 := runLen_end (notNl text) text.size 0
    have S := step_rep1 (text := text) (handed := 0) (marks := #[none, none]) (seen := ({} : Seen).add 14) hsz
    generalize hn : runLen (notNl text) text.size 0 = n at S h1 h2 h3
    have reach_n : ∀ p, Reach text p → p ≤ text.size → p ≤ n := fun p hp hps => by
      refine Nat.le_of_not_lt fun hlt => ?_
      have := h3 (by omega)
      rw [Nat.zero_add] at this
      exact hp n hlt (by simpa [notNl] using this)
    have n_reach : ∀ p, p ≤ n → Reach text p := fun p hp j hj => by
      have := h2 j (Nat.zero_le _) (by omega)
      simpa [notNl] using this
    obtain ⟨k, m', hk, S2, h⟩ := all_tries (text := text) hsz n n none none (((({} : Seen).add 14).add 24).add 2)
    have hB : (n + 1) * (3 * text.size + 21) ≤ 16777217 * 50331669 := Nat.mul_le_mul (by omega) (by omega)
    refine ⟨k + 1, m', by omega, .cons rfl (S ▸ S2), ?_⟩
    rcases h with ⟨h4, h5⟩ | ⟨p', e, h4, h5, h6, h7⟩
    · exact .inl ⟨fun p e hr he => h4 p e (reach_n p hr (by have := he.le8; omega)) he, h5⟩
    · exact .inr ⟨p', e, n_reach p' h4, h5, fun p'' e' x y he => h6 p'' e' x (reach_n p'' y (by have := he.le8; omega)) he, h7⟩
end
end Mine

-- part RxF
namespace Mine
open PySem PySem.W PySem.Calls Builtin
theorem pa_pattern : PlainAttrs "re.Pattern" :=
  ⟨⟨"object.__getattribute__", by rw [typeLookup_type, builtinLookup_eq_fast]; kernel_rfl, by decide +kernel⟩, by rw [typeLookup_type, builtinLookup_eq_fast]; kernel_rfl⟩
theorem pa_match : PlainAttrs "re.Match" :=
  ⟨⟨"object.__getattribute__", by rw [typeLookup_type, builtinLookup_eq_fast]; kernel_rfl, by decide +kernel⟩, by rw [typeLookup_type, builtinLookup_eq_fast]; kernel_rfl⟩
theorem slot_match : Slot "re.Pattern" "match" "re.Pattern.match" :=
  .of (owner := "re.Pattern") (n := "match") (by rw [typeLookup_type, builtinLookup_eq_fast]; kernel_rfl) (by decide +kernel) (by decide +kernel) (by decide +kernel)
    (by first | exact .inl (by decide +kernel) | exact .inr (by decide +kernel)) (by rw [isSubtype_type]; kernel_rfl)
theorem type_match : typeOf (.builtin "re.Pattern.match") = pure (.type "method_descriptor") := by show builtinType _ = _; rw [builtinType_eq_fast]; kernel_rfl
theorem entry_match : entryFor table "re.Pattern.match" = some Builtin.«re.Pattern.match» := entryFor_of_tree (by kernel_rfl)
theorem args_match (a b : Value) : argsOk "re.Pattern.match" ⟨[a, b], []⟩ := by unfold argsOk; kernel_rfl
theorem slot_group : Slot "re.Match" "group" "re.Match.group" :=
  .of (owner := "re.Match") (n := "group") (by rw [typeLookup_type, builtinLookup_eq_fast]; kernel_rfl) (by decide +kernel) (by decide +kernel) (by decide +kernel)
    (by first | exact .inl (by decide +kernel) | exact .inr (by decide +kernel)) (by rw [isSubtype_type]; kernel_rfl)
theorem type_group : typeOf (.builtin "re.Match.group") = pure (.type "method_descriptor") := by show builtinType _ = _; rw [builtinType_eq_fast]; kernel_rfl
theorem entry_group : entryFor table "re.Match.group" = some Builtin.«re.Match.group» := entryFor_of_tree (by kernel_rfl)
theorem args_group (a b : Value) : argsOk "re.Match.group" ⟨[a, b], []⟩ := by unfold argsOk; kernel_rfl
theorem slot_split : Slot "bytes" "split" "bytes.split" :=
  .of (owner := "bytes") (n := "split") (by rw [typeLookup_type, builtinLookup_eq_fast]; kernel_rfl) (by decide +kernel) (by decide +kernel) (by decide +kernel)
    (by first | exact .inl (by decide +kernel) | exact .inr (by decide +kernel)) (by rw [isSubtype_type]; kernel_rfl)
theorem type_split : typeOf (.builtin "bytes.split") = pure (.type "method_descriptor") := by show builtinType _ = _; rw [builtinType_eq_fast]; kernel_rfl
theorem entry_split : entryFor table "bytes.split" = some Builtin.«bytes.split» := entryFor_of_tree (by kernel_rfl)
theorem args_split (a : Value) : argsOk "bytes.split" ⟨[a], []⟩ := by unfold argsOk; kernel_rfl
theorem slot_join : Slot "bytes" "join" "bytes.join" :=
  .of (owner := "bytes") (n := "join") (by rw [typeLookup_type, builtinLookup_eq_fast]; kernel_rfl) (by decide +kernel) (by decide +kernel) (by decide +kernel)
    (by first | exact .inl (by decide +kernel) | exact .inr (by decide +kernel)) (by rw [isSubtype_type]; kernel_rfl)
theorem type_join : typeOf (.builtin "bytes.join") = pure (.type "method_descriptor") := by show builtinType _ = _; rw [builtinType_eq_fast]; kernel_rfl
theorem entry_join : entryFor table "bytes.join" = some Builtin.«bytes.join» := entryFor_of_tree (by kernel_rfl)
theorem args_join (a b : Value) : argsOk "bytes.join" ⟨[a, b], []⟩ := by unfold argsOk; kernel_rfl
section
variable {M : Model} {A : Around} {E : Value → Shared → Prop} {s : Shared} {b : Array UInt8} {t : Tok} {pl : Sem Bool} {Q : Value × List Value → Shared → Prop}
theorem meth_split (h : Q (.builtin "bytes.split", [.bytes b t]) s) : wpAny M A (getMethod (.bytes b t) "split" pl) Q E s := by
  with_reducible exact KBd.method_of (.bytes b t) (typeIs_bytes _ _ _) slot_split type_split KBd.noRef h
theorem meth_join (h : Q (.builtin "bytes.join", [.bytes b t]) s) : wpAny M A (getMethod (.bytes b t) "join" pl) Q E s := by
  with_reducible exact KBd.method_of (.bytes b t) (typeIs_bytes _ _ _) slot_join type_join KBd.noRef h
theorem meth_match {a : Addr} {o : Obj} (ho : s.heap.get? a = some o) (hc : o.cls = .type "re.Pattern") (hd : o.dict = none) (h : Q (.builtin "re.Pattern.match", [.ref a]) s) : wpAny M A (getMethod (.ref a) "match" pl) Q E s :=
  getMethod_builtin ⟨o, ho, hc⟩ pa_pattern slot_match type_match (fun a' e => by cases e; exact ⟨o, ho, hd⟩) h
theorem meth_group {a : Addr} {o : Obj} (ho : s.heap.get? a = some o) (hc : o.cls = .type "re.Match") (hd : o.dict = none) (h : Q (.builtin "re.Match.group", [.ref a]) s) : wpAny M A (getMethod (.ref a) "group" pl) Q E s :=
  getMethod_builtin ⟨o, ho, hc⟩ pa_match slot_group type_group (fun a' e => by cases e; exact ⟨o, ho, hd⟩) h
end
end Mine

-- part RxB
namespace Mine
open PySem PySem.W PySem.Calls Builtin PySem.Builtin.Re
section
variable {M : Model} {A : Around} {E : Value → Shared → Prop} {s : Shared}
theorem wp_drive {m' : Sre.M} (ho : m'.outcome.isSome = true) {Q : Sre.M → Shared → Prop} (h : Q m' s) : ∀ (turns k : Nat) (m : Sre.M), Steps k m m' → k < 4 * turns → wpAny M A (reDrive turns m) Q E s
  | 0, k, m, S, hk => by omega
  | turns + 1, k, m, S, hk => by
    unfold reDrive
    by_cases h4 : k ≤ 4
    · have e : m.runFor reTurnSteps = m' := S.runFor ho 4 h4
      simp only [e, ho, if_true]
      exact wpAny_pure h
    · have S' : Steps (k - 4) (m.runFor reTurnSteps) m' := S.part 4 (by omega)
      obtain ⟨j, hj⟩ : ∃ j, k - 4 = j + 1 := ⟨k - 5, by omega⟩
      have hn : (m.runFor reTurnSteps).outcome = none := by rw [hj] at S'; exact S'.none
      simp only [hn, Option.isSome_none, Bool.false_eq_true, if_false]
      exact wpAny_bind (wpAny_rule (wp_drive ho h turns (k - 4) _ S' (by omega)))
theorem wp_rules {f : Nat → Bool} {g : Nat → String} {Q : PUnit → Shared → Prop} (h : Q ⟨⟩ s) : ∀ l : List Nat, wpAny M A (forIn l PUnit.unit fun i _ => do
      if f i = true then rule (g i)
      pure (ForInStep.yield PUnit.unit)) Q E s
  | [] => by rw [List.forIn_nil]; exact wpAny_pure h
  | x :: l => by
    rw [List.forIn_cons]
    refine wpAny_bind ?_
    by_cases hf : f x = true
    · simp only [hf, if_true]
      exact wpAny_bind (wpAny_rule (wpAny_pure (wp_rules h l)))
    · simp only [hf, if_false]
      exact wpAny_pure (wp_rules h l)
theorem wp_runToEnd {k : Nat} {m m' : Sre.M} (S : Steps k m m') (hk : k ≤ 1125899906842624) {Q : Option Sre.M → Shared → Prop}
    (hm : (m'.outcome = some .matched ∧ Q (some m') s) ∨ (m'.outcome = some .failed ∧ Q none s)) : wpAny M A (reRunToEnd m) Q E s := by
  unfold reRunToEnd
  have ho : m'.outcome.isSome = true := by rcases hm with ⟨h, _⟩ | ⟨h, _⟩ <;> rw [h] <;> rfl
  refine wpAny_bind (wp_drive ho ?_ (2 ^ 64) k m S (by omega))
  refine wpAny_bind ?_
  refine wpAny_mono (wp_rules (f := fun i => m'.seen.has i) (g := fun i => Sre.names.getD i "") (Q := fun _ s' => s' = s) rfl (List.range Sre.names.size)) ?_ fun _ _ e => e
  rintro _ _ rfl
  rcases hm with ⟨h, hq⟩ | ⟨h, hq⟩
  · simp only [h]; exact wpAny_pure hq
  · simp only [h]; exact wpAny_pure hq
end
inductive BytesAre : List Value → List (Array UInt8) → Prop
  | nil : BytesAre [] []
  | cons {b : Array UInt8} {vs : List Value} {bs : List (Array UInt8)} (t : Tok) : BytesAre vs bs → BytesAre (.bytes b t :: vs) (b :: bs)
theorem BytesAre.length {vs : List Value} {bs : List (Array UInt8)} (h : BytesAre vs bs) : vs.length = bs.length := by
  induction h with
  | nil => rfl
  | cons _ _ ih => simp [ih]
abbrev nats (b : Array UInt8) : Array Nat := b.map (·.toNat)
theorem nats_size (b : Array UInt8) : (nats b).size = b.size := Array.size_map
abbrev mkTup (vs : List Value) : Obj := { cls := .type "tuple", data := .seq vs.toArray }
abbrev mkMatch (P sp : Addr) (b : Array UInt8) (t : Tok) : Obj := { cls := .type "re.Match", data := .fields #[.bytes b t, .ref P, rawInt 0, rawInt b.size, rawInt 1, .ref sp] }
section
variable {prog : Program} {w : World} {A : Around} {E : Value → Shared → Prop} {s : Shared} {b : Array UInt8}
theorem named_eq {id f : String} {v : Value} : reNamed id f ["string", "pos", "endpos"] 1 [v] [] = pure [some v, none, none] := by kernel_rfl
theorem text_eq {b : Array UInt8} {t : Tok} : reTextOf (.bytes b t) = pure (nats b, 1) := by
  have e : asStr? (.bytes b t) = pure none := rfl
  unfold reTextOf
  rw [e, KBy.quiet_eq]
  rfl
theorem inside_eq {b : Array UInt8} {t : Tok} : reNoCollectionInside (.bytes b t) 1 = pure () := by
  unfold reNoCollectionInside
  rw [KBy.isInstance_eq]
  rfl
theorem call_match {P c : Addr} {oP oc : Obj} {x0 x1 x3 x4 : Value} {t2 t6 t : Tok} {cv : Array Value} {n : Nat} {b : Array UInt8} {Q : Value → Shared → Prop}
    (hP : s.heap.get? P = some oP) (hPc : oP.cls = .type "re.Pattern") (hPd : oP.data = .fields #[x0, x1, .int 1 t2, x3, x4, .ref c, .int 1 t6]) (hc : s.heap.get? c = some oc) (hcd : oc.data = .seq cv n)
    (hcode : (cv.map reRawOf).map (·.toNat) = rxCode) (hsz : b.size ≤ 16777216)
    (hno : (∀ p e, Reach (nats b) p → ¬ Hit (nats b) p e) → Q .none s)
    (hyes : ∀ p e, Reach (nats b) p → Hit (nats b) p e → (∀ p' e', p < p' → Reach (nats b) p' → ¬ Hit (nats b) p' e') →
      Q (.ref (s.heap.objs.size + 1)) { s with heap := (s.heap.push (mkTup [rawInt 0, rawInt ((e + 1 : Nat) : Int), rawInt ((p + 7 : Nat) : Int), rawInt (e : Int)])).push (mkMatch P s.heap.objs.size b t) }) :
    wpAny (model prog w) A (call (.builtin "re.Pattern.match") [.ref P, .bytes b t]) Q E s := by
  refine call_meets slot_match ⟨oP, hP, hPc⟩ entry_match (args_match _ _) (S := fun A R s' => s' = s ∧ R = wants Q E) (.of_wp fun prog w A R s' hS => ?_) ⟨rfl, rfl⟩
  obtain ⟨rfl, rfl⟩ := hS
  unfold Builtin.«re.Pattern.match»
  refine wpAny_bind (Q := _) ?_
  unfold reTarget
  simp only []
  refine wpAny_bind (wpAny_of_eq named_eq ?_)
  simp only []
  refine wpAny_bind (wpAny_pure ?_)
  refine wpAny_bind (wpAny_pure ?_)
  refine wpAny_bind (wpAny_fieldsOf hP hPd ?_)
  refine wpAny_bind (wpAny_of_eq text_eq ?_)
  show wpAny _ _ (reNoCollectionInside (.bytes b t) 1 >>= fun _ => _) _ _ _
  refine wpAny_bind (wpAny_of_eq inside_eq ?_)
  show wpAny _ _ (reRawItems (.ref c) >>= fun _ => _) _ _ _
  unfold reRawItems
  refine wpAny_bind (wpAny_bind (wpAny_seqItems hc hcd (wpAny_pure ?_)))
  refine wpAny_pure ?_
  simp only [Option.getD_some, hcode]
  have hlim : min (2 ^ 63 - 1 : Int).toNat (nats b).size = (nats b).size := by
    have := nats_size b
    have e : (2 ^ 63 - 1 : Int).toNat = 9223372036854775807 := by decide
    rw [e]; omega
  have hpos : min (0 : Int).toNat (nats b).size = 0 := by simp
  unfold reAnswer
  simp only [hlim, hpos]
  obtain ⟨k, m', hk, S, hm⟩ := rx_run (text := nats b) (by rw [nats_size]; exact hsz)
  refine wpAny_bind (wp_runToEnd (m' := m') S hk ?_)
  rcases hm with ⟨h1, h2⟩ | ⟨p, e, h1, h2, h3, W⟩
  · exact .inr ⟨h2, wpAny_pure ⟨_, rfl, hno h1⟩⟩
  · refine .inl ⟨W.out, ?_⟩
    simp only []
    refine wpAny_bind ?_
    unfold reNewMatch
    have hle : ¬ e < p + 7 := by have := h2.ge; omega
    have hr1 : List.range (reRawNat (#[x0, x1, Value.int 1 t2, x3, x4, Value.ref c, Value.int 1 t6].getD 2 Value.none)) = [0] := rfl
    have hlm : (((2 * 0 + 1 : Nat) : Int) ≤ 1) := by decide
    simp only [hr1, W.marks, W.lastmark, W.start, W.handed, W.lastindex, List.flatMap_cons, List.flatMap_nil, List.any_cons, List.any_nil, if_pos hlm]
    have g0 : (#[some (p + 7), some e] : Array (Option Nat)).getD (2 * 0) none = some (p + 7) := rfl
    have g1 : (#[some (p + 7), some e] : Array (Option Nat)).getD (2 * 0 + 1) none = some e := rfl
    simp only [g0, g1, decide_eq_false hle, Bool.and_false, Bool.or_false, Bool.false_eq_true, if_false, List.append_nil]
    refine wpAny_bind (wpAny_newObj_type ?_ (by show (4 : Nat) ≤ sizeLine; decide))
    refine wpAny_newObj_type ?_ (by show (6 : Nat) ≤ sizeLine + 2; decide)
    refine wpAny_pure ⟨_, rfl, ?_⟩
    have := hyes p e h1 h2 h3
    simp only [wants, Heap.size_push, nats_size]
    exact this
theorem look_str_index : typeLookup (.type "str") "__index__" = pure none := by rw [typeLookup_type, builtinLookup_eq_fast]; kernel_rfl
theorem special_str_index {x : PySem.Str} {t : Tok} : specialOf (.str x t) "__index__" = pure none := by
  have e : specialOf (.str x t) "__index__" = typeLookup (.type "str") "__index__" := rfl
  rw [e, look_str_index]
theorem extract_nats (b : Array UInt8) (i j : Nat) : ((nats b).extract i j).map (·.toUInt8) = b.extract i j := by
  rw [← Array.map_extract, Array.map_map]
  have : ((fun x => Nat.toUInt8 x) ∘ fun x => UInt8.toNat x) = _root_.id := by
    funext x
    simp
  rw [this]
  simp
theorem call_group {mA P sp d : Addr} {om oP osp od : Obj} {x0 x1 x2 x4 x5 x6 y2 y3 y4 : Value} {b : Array UInt8} {i0 i1 : Int} {p e : Nat} {t u u1 u2 u3 u4 u5 u6 : Tok} {n ep : Nat} {Q : Value → Shared → Prop}
    (hm : s.heap.get? mA = some om) (hmc : om.cls = .type "re.Match") (hmd : om.data = .fields #[.bytes b t, .ref P, y2, y3, y4, .ref sp])
    (hsp : s.heap.get? sp = some osp) (hspd : osp.data = .seq #[.int i0 u1, .int i1 u2, .int p u3, .int e u4] n)
    (hP : s.heap.get? P = some oP) (hPd : oP.data = .fields #[x0, x1, x2, .ref d, x4, x5, x6])
    (hd : s.heap.get? d = some od) (hdx : od.ExactDict) (hdd : od.data = .dict #[{ hash := PyData.keyHash w.params (PySem.Str.ofString "flags"), key := .str (PySem.Str.ofString "flags") u5, val := .int 1 u6 }] ep)
    (hsz : b.size ≤ 16777216)
    (h : ∀ t' k, Q (.bytes (b.extract p e) t') { s with toks := k }) :
    wpAny (model prog w) A (call (.builtin "re.Match.group") [.ref mA, .str (PySem.Str.ofString "flags") u]) Q E s := by
  refine call_meetsIn slot_group ⟨om, hm, hmc⟩ entry_group (args_group _ _) (S := fun A R s' => s' = s ∧ R = wants Q E) (.of_wp fun A R s' hS => ?_) ⟨rfl, rfl⟩
  obtain ⟨rfl, rfl⟩ := hS
  unfold Builtin.«re.Match.group»
  refine wpAny_bind (wpAny_of_eq (a := ()) rfl ?_)
  simp only []
  refine wpAny_bind ?_
  unfold reFound
  refine wpAny_bind (wpAny_fieldsOf hm hmd ?_)
  refine wpAny_bind ?_
  show wpAny _ _ (reRawItems (.ref sp)) _ _ _
  unfold reRawItems
  refine wpAny_bind (wpAny_seqItems hsp hspd (wpAny_pure ?_))
  refine wpAny_pure ?_
  simp only [Option.getD_some]
  refine wpAny_bind ?_
  unfold reGroupNumber
  have e0 : asInt? (.str (PySem.Str.ofString "flags") u) = pure none := rfl
  refine wpAny_bind (wpAny_of_eq e0 ?_)
  simp only [Option.isSome_none, Bool.false_eq_true, if_false]
  refine wpAny_bind (wpAny_of_eq special_str_index ?_)
  simp only [Option.isSome_none, Bool.false_eq_true, if_false]
  refine wpAny_bind (wpAny_fieldsOf hP hPd ?_)
  show wpAny _ _ (dictGet d (.str (PySem.Str.ofString "flags") u) >>= fun _ => _) _ _ _
  refine wpAny_bind (wpAny_dictGet_of (knd := strKind prog w) (k := PySem.Str.ofString "flags") (f := fun x => findBy (strKind prog w).is #[{ hash := PyData.keyHash w.params (PySem.Str.ofString "flags"), key := .str (PySem.Str.ofString "flags") u5, val := .int 1 u6 }] x) (strKind_is prog w _ _) ⟨od, _, ep, hd, hdx, hdd, ?_, fun _ => rfl⟩ ?_)
  · intro e he
    simp only [Array.mem_singleton, List.mem_toArray, List.mem_singleton] at he
    subst he
    exact ⟨_, strKind_is prog w _ _, rfl⟩
  have e1 : findBy (strKind prog w).is #[({ hash := PyData.keyHash w.params (PySem.Str.ofString "flags"), key := .str (PySem.Str.ofString "flags") u5, val := .int 1 u6 } : DictEntry)] (PySem.Str.ofString "flags") = some (.int 1 u6) := rfl
  rw [e1]
  simp only []
  have e2 : asInt? (.int 1 u6) = pure (some 1) := rfl
  refine wpAny_bind (wpAny_of_eq e2 ?_)
  refine wpAny_bind (wpAny_pure ?_)
  have e3 : Array.map reRawOf #[Value.int i0 u1, Value.int i1 u2, Value.int (↑p) u3, Value.int (↑e) u4] = #[i0, i1, (p : Int), (e : Int)] := by simp [reRawOf]
  rw [e3]
  simp only [Option.getD_some]
  rw [if_neg (by show ¬ ((decide ((1 : Int) < 0) || decide (2 * (1 : Int) ≥ ((4 : Nat) : Int))) = true); decide)]
  refine wpAny_pure ?_
  refine wpAny_bind ?_
  unfold reGroupText
  have g0 : (#[i0, i1, (p : Int), (e : Int)] : Array Int).getD (2 * (1 : Int).toNat) (-1) = p := rfl
  have g1 : (#[i0, i1, (p : Int), (e : Int)] : Array Int).getD (2 * (1 : Int).toNat + 1) (-1) = e := rfl
  simp only [g0, g1]
  rw [if_neg (by simp)]
  show wpAny _ _ (reTextOf (.bytes b t) >>= fun _ => _) _ _ _
  refine wpAny_bind (wpAny_of_eq text_eq ?_)
  unfold reSlice
  simp only []
  rw [if_neg (by decide)]
  simp only [Int.toNat_natCast, extract_nats]
  refine wpAny_mkBytes ?_ (by rw [sizeLine_eq]; have := Array.size_extract (xs := b) (start := p) (stop := e); omega)
  exact wpAny_pure ⟨_, rfl, h _ _⟩
theorem wp_mapM_mkBytes {M : Model} : ∀ (ws : List (List UInt8)) (s : Shared) (Q : List Value → Shared → Prop), (∀ x ∈ ws, x.length ≤ sizeLine) → (∀ vs k, BytesAre vs (ws.map (·.toArray)) → Q vs { s with toks := k }) → wpAny M A (ws.mapM fun w => Bytes.Kind.new .bytes w.toArray) Q E s
  | [], s, Q, _, h => by rw [List.mapM_nil]; exact wpAny_pure (h [] s.toks .nil)
  | a :: r, s, Q, hz, h => by
    rw [List.mapM_cons]
    refine wpAny_bind (wpAny_mkBytes ?_ (by simpa using hz a (List.mem_cons_self ..)))
    refine wpAny_bind (wp_mapM_mkBytes r _ _ (fun x hx => hz x (List.mem_cons_of_mem _ hx)) fun vs k hb => ?_)
    exact wpAny_pure (h _ k (.cons _ hb))
abbrev splitWs (b : Array UInt8) : List (List UInt8) := Bytes.words (b.size + 1) (b.size + 1) b.toList
theorem takeWhile_self {α : Type} {p : α → Bool} : ∀ {l : List α}, (∀ x ∈ l, p x = true) → l.takeWhile p = l
  | [], _ => rfl
  | x :: l, h => by rw [List.takeWhile_cons_of_pos (h x (List.mem_cons_self ..)), takeWhile_self fun y hy => h y (List.mem_cons_of_mem _ hy)]
theorem words_nil : ∀ (fuel left : Nat), Bytes.words fuel left [] = []
  | 0, _ => rfl
  | _ + 1, _ => rfl
theorem words_none (hb : b.isEmpty = false) (hs : b.any Bytes.isSpace = false) : splitWs b = [b.toList] := by
  have hall : ∀ x ∈ b.toList, Bytes.isSpace x = false := by
    intro x hx
    rw [Array.any_eq_false'] at hs
    simpa using hs x (by simpa using hx)
  unfold splitWs Bytes.words
  have h1 : b.toList.dropWhile Bytes.isSpace = b.toList := by
    cases hl : b.toList with
    | nil => rfl
    | cons x r => rw [List.dropWhile_cons_of_neg]; rw [hall x (by rw [hl]; exact List.mem_cons_self ..)]; exact Bool.false_ne_true
  have h2 : b.toList.takeWhile (fun x => !Bytes.isSpace x) = b.toList := by
    exact takeWhile_self (fun x hx => by rw [hall x hx]; rfl)
  have h3 : b.toList.dropWhile (fun x => !Bytes.isSpace x) = [] := by
    have := List.takeWhile_append_dropWhile (p := fun x => !Bytes.isSpace x) (l := b.toList)
    rw [h2] at this
    exact List.append_cancel_left (this.trans (List.append_nil _).symm)
  rw [h1]
  split
  · rename_i he
    rw [Array.isEmpty_iff.mpr (by simpa using he)] at hb
    cases hb
  · rw [if_neg (by simp), h2, h3, words_nil]
theorem words_le : ∀ (fuel left : Nat) (text : List UInt8) (w : List UInt8), w ∈ Bytes.words fuel left text → w.length ≤ text.length
  | 0, _, _, _, h => nomatch h
  | fuel + 1, left, text, w, h => by
    unfold Bytes.words at h
    have hd : (text.dropWhile Bytes.isSpace).length ≤ text.length := (List.dropWhile_suffix _).length_le
    split at h
    · cases h
    · split at h
      · rw [List.mem_singleton.mp h]; exact hd
      · rcases List.mem_cons.mp h with rfl | h
        · exact Nat.le_trans (List.takeWhile_prefix _).length_le hd
        · exact Nat.le_trans (words_le fuel (left - 1) _ w h) (Nat.le_trans (List.dropWhile_suffix _).length_le hd)
theorem words_count : ∀ (fuel left : Nat) (text : List UInt8), (Bytes.words fuel left text).length ≤ fuel
  | 0, _, _ => Nat.le_refl _
  | fuel + 1, left, text => by
    unfold Bytes.words
    split
    · exact Nat.zero_le _
    · split
      · simp
      · simpa using words_count fuel (left - 1) _
theorem call_split {t : Tok} {Q : Value → Shared → Prop} (hsz : b.size ≤ 1000000)
    (h : ∀ vs k, BytesAre vs ((splitWs b).map (·.toArray)) → Q (.ref s.heap.objs.size) { s with heap := s.heap.push { cls := .type "list", data := .seq vs.toArray }, toks := k }) :
    wpAny (model prog w) A (call (.builtin "bytes.split") [.bytes b t]) Q E s := by
  refine call_meets slot_split (typeIs_bytes _ _ _) entry_split (args_split _) (S := fun A R s' => s' = s ∧ R = wants Q E) (.of_wp fun prog w A R s' hS => ?_) ⟨rfl, rfl⟩
  obtain ⟨rfl, rfl⟩ := hS
  unfold Builtin.«bytes.split» Bytes.splitM
  simp only []
  have e0 : Bytes.bindOptional "bytes.split" "split" ["sep", "maxsplit"] [] [] = pure [none, none] := by kernel_rfl
  refine wpAny_bind (wpAny_of_eq e0 ?_)
  simp only []
  refine wpAny_bind (wpAny_pure ?_)
  have e1 : Bytes.payload (.bytes b t) = pure b := rfl
  refine wpAny_bind (wpAny_of_eq e1 ?_)
  refine wpAny_bind (wpAny_rule ?_)
  have e2 : (if (-1 : Int) < 0 then b.size + 1 else (-1 : Int).toNat) = b.size + 1 := if_pos (by decide)
  rw [e2]
  by_cases hc : (decide (b.size + 1 > 0) && !b.isEmpty && !b.any Bytes.isSpace) = true
  · rw [if_pos hc]
    simp only [Bool.and_eq_true, Bool.not_eq_true'] at hc
    have e3 : Bytes.Kind.same .bytes (.bytes b t) = pure (.bytes b t) := rfl
    refine wpAny_bind (wpAny_of_eq e3 ?_)
    refine wpAny_bind (wpAny_newList ?_ (by show (1 : Nat) ≤ sizeLine; decide))
    refine wpAny_pure ⟨_, rfl, h _ _ ?_⟩
    rw [words_none hc.1.2 hc.2]
    exact .cons t .nil
  · rw [if_neg hc, if_neg (by decide)]
    refine wpAny_bind (wp_mapM_mkBytes _ _ _ (fun x hx => ?_) fun vs k hb => ?_)
    · have := words_le _ _ _ x hx
      have h5 : b.toList.length = b.size := Array.length_toList
      rw [sizeLine_eq]; omega
    · refine wpAny_bind (wpAny_newList ?_ ?_)
      · exact wpAny_pure ⟨_, rfl, h vs k hb⟩
      · rw [hb.length, List.length_map, sizeLine_eq]
        have := words_count (b.size + 1) (b.size + 1) b.toList
        omega
theorem take_eq {id : String} {b : Array UInt8} {t : Tok} : Bytes.takeBufferQuiet? id (.bytes b t) 0 = pure (some (b, none)) := by
  unfold Bytes.takeBufferQuiet? Bytes.takeBuffer?
  rw [show ((0 : Int) == Bytes.fullReadOnly) = false by decide]
  rw [KBy.special_eq KBy.look_buffer, KBy.own_buffer, KBy.buffer_eq]
  kernel_rfl
theorem wp_letGo {M : Model} {keep : List Value} {Q : Unit → Shared → Prop} (h : Q () s) : ∀ (l : List (Value × Option Value)), (∀ p ∈ l, p.2 = none) → wpAny M A (Bytes.joinLetGo l keep) Q E s
  | [], _ => wpAny_pure h
  | (x, w) :: r, hn => by
    obtain rfl : w = none := hn _ (List.mem_cons_self ..)
    unfold Bytes.joinLetGo
    simp only []
    exact wpAny_bind (wpAny_letGo (wp_letGo h r fun p hp => hn p (List.mem_cons_of_mem _ hp)))
theorem BytesAre.get {vs : List Value} {bs : List (Array UInt8)} (h : BytesAre vs bs) : ∀ (i : Nat) (hi : i < bs.length), ∃ t, vs[i]? = some (.bytes bs[i] t) := by
  induction h with
  | nil => intro i hi; exact absurd hi (Nat.not_lt_zero _)
  | cons t _ ih =>
    intro i hi
    cases i with
    | zero => exact ⟨t, rfl⟩
    | succ i => exact ih i (Nat.lt_of_succ_lt_succ hi)
theorem joined_one (sep b : Array UInt8) : Bytes.joined sep [b] = b := by simp [Bytes.joined]
theorem wp_range {M : Model} {β : Type} {n : Nat} {b₀ : β} {Q : β → Shared → Prop} {I : Nat → β → Prop} (f : Nat → β → Sem (ForInStep β)) (E : Value → Shared → Prop)
    (turn : ∀ i b, i < n → I i b → wpAny M A (f i b) (fun r s' => s' = s ∧ ∃ b', r = .yield b' ∧ I (i + 1) b') E s) (h0 : I 0 b₀) (fin : ∀ b, I n b → Q b s) : wpAny M A (forIn [:n] b₀ f) Q E s := by
  rw [Std.Legacy.Range.forIn_eq_forIn_range']
  refine wpAny_forIn_list (s := s) f (fun l b s' => s' = s ∧ ∃ i, i ≤ n ∧ l = List.range' i (n - i) ∧ I i b) Q (fun x rest b s' hI => ?_) (fun b s' hI => ?_) _ _ ⟨rfl, 0, Nat.zero_le _, by simp [Std.Legacy.Range.size], h0⟩
  · obtain ⟨rfl, i, hi, hl, hb⟩ := hI
    have hlt : i < n := by
      refine Nat.lt_of_le_of_ne hi fun e => ?_
      rw [e, Nat.sub_self] at hl
      cases hl
    rw [show n - i = (n - (i + 1)) + 1 by omega, List.range'_succ] at hl
    injection hl with hx hr
    subst hx
    refine wpAny_mono (turn x b hlt hb) (fun r s₂ h => ?_) fun _ _ e => e
    obtain ⟨rfl, b', rfl, hb'⟩ := h
    exact ⟨rfl, x + 1, hlt, hr, hb'⟩
  · obtain ⟨rfl, i, hi, hl, hb⟩ := hI
    have : i = n := by
      refine Nat.le_antisymm hi (Nat.le_of_not_lt fun h => ?_)
      rw [show n - i = (n - (i + 1)) + 1 by omega, List.range'_succ] at hl
      cases hl
    subst this
    exact fin b hb
theorem call_join {l : Addr} {o : Obj} {n : Nat} {vs : List Value} {bs : List (Array UInt8)} {sep : Array UInt8} {t : Tok} {Q : Value → Shared → Prop}
    (ho : s.heap.get? l = some o) (hc : o.cls = .type "list" ∨ o.cls = .type "tuple") (hd : o.data = .seq vs.toArray n) (hv : BytesAre vs bs)
    (hz : bs.foldl (fun a b => a + b.size) (sep.size * (bs.length - 1)) ≤ 16777216) (hz2 : (Bytes.joined sep bs).size ≤ 16777216)
    (h : ∀ t' k, Q (.bytes (Bytes.joined sep bs) t') { s with toks := k }) :
    wpAny (model prog w) A (call (.builtin "bytes.join") [.bytes sep t, .ref l]) Q E s := by
  refine call_meets slot_join (typeIs_bytes _ _ _) entry_join (args_join _ _) (S := fun A R s' => s' = s ∧ R = wants Q E) (.of_wp fun prog w A R s' hS => ?_) ⟨rfl, rfl⟩
  obtain ⟨rfl, rfl⟩ := hS
  unfold Builtin.«bytes.join» Bytes.joinM
  refine wpAny_bind (wpAny_of_eq (a := (.bytes sep t, .ref l)) rfl ?_)
  show wpAny _ _ (Bytes.joinItems (.ref l) >>= _) _ _ _
  refine wpAny_bind ?_
  unfold Bytes.joinItems
  refine wpAny_bind (wpAny_typeOf_ref ho ?_)
  rw [if_pos (by rcases hc with h | h <;> rw [h] <;> decide)]
  refine wpAny_pure ?_
  refine wpAny_bind (wpAny_seqItems ho hd ?_)
  have hx : ∀ (us : List Value) (i : Nat) (v : Value), us[i]? = some v → us.toArray.getD i Value.none = v := by intro us i v h; simp [h]
  rcases vs with _ | ⟨v1, _ | ⟨v2, vs⟩⟩
  case cons.nil =>
    cases hv with
    | @cons b _ _ t1 hv =>
      cases hv
      show wpAny _ _ (typeOf (.bytes b t1) >>= _) _ _ _
      refine wpAny_bind (wpAny_typeOf (typeIs_bytes _ _ _) ?_)
      rw [if_pos (by decide)]
      refine wpAny_bind (wpAny_rule ?_)
      refine wpAny_pure ⟨_, rfl, ?_⟩
      have := h t1 s'.toks
      rw [joined_one] at this
      exact this
  all_goals
    show wpAny _ _ (_ >>= _) _ _ _
    refine wpAny_bind (wp_range (I := fun i b => b.1.toList = bs.take i ∧ ∀ p ∈ b.2, p.2 = none ∧ p.1.onHeap = false) _ _ (fun i b hi hI => ?_) ⟨rfl, fun _ hp => nomatch hp⟩ fun b hI => ?_)
    · obtain ⟨h1, h2⟩ := hI
      simp only [List.size_toArray, hv.length] at hi
      obtain ⟨ti, hti⟩ := hv.get i hi
      have hany : (b.2.any fun x => x.fst.onHeap) = false := by
        rw [List.any_eq_false]
        intro p hp
        rw [(h2 p hp).2]; exact Bool.false_ne_true
      refine wpAny_bind (wpAny_seqItems ho hd ?_)
      simp only [hx _ _ _ hti]
      rw [if_neg (by rw [hany]; decide)]
      refine wpAny_bind (wpAny_holding (wpAny_of_eq take_eq ?_))
      simp only []
      refine wpAny_bind (wpAny_seqItems ho hd ?_)
      simp only []
      rw [if_neg (by simp)]
      refine wpAny_pure ⟨rfl, _, rfl, ?_, ?_⟩
      · rw [List.take_add_one, List.getElem?_eq_getElem hi]
        simp [h1]
      · intro p hp
        rcases List.mem_append.mp hp with hp | hp
        · exact h2 p hp
        · rw [List.mem_singleton.mp hp]; exact ⟨rfl, rfl⟩
    · obtain ⟨h1, h2⟩ := hI
      simp only [List.size_toArray, hv.length, List.take_length] at h1
      refine wpAny_bind (wpAny_of_eq (a := sep) rfl ?_)
      simp only []
      have e0 : b.1.size = bs.length := by rw [← h1, Array.length_toList]
      have e1 : Array.foldl (fun x1 x2 => x1 + x2.size) (sep.size * (b.1.size - 1)) b.1 = bs.foldl (fun a b => a + b.size) (sep.size * (bs.length - 1)) := by
        rw [← Array.foldl_toList, h1, e0]
      rw [if_neg (by unfold Bytes.tooLong; rw [e1, sizeLine_eq]; simp; exact hz), h1]
      refine wpAny_bind (wpAny_mkBytes ?_ (by rw [sizeLine_eq]; exact hz2))
      refine wpAny_bind (wpAny_holding (wpAny_point ?_))
      refine wpAny_bind (wp_letGo ?_ _ fun p hp => (h2 p hp).1)
      exact wpAny_pure ⟨_, rfl, h _ _⟩
end
end Mine

-- part RxC
namespace Mine
open PySem PySem.W PySem.Calls Builtin PyProof.Rows PySem.SeqAt
theorem eqAt_bytes {A : Around} {s : Shared} (b c : Array UInt8) (t u : Tok) : EqAt A s (.bytes b t) (.bytes c u) (b.toList == c.toList) := by
  intro prog w E Q h
  unfold eqBool
  refine wpAny_holding ?_
  refine wpAny_ite_split (fun hab => ?_) (fun hab => ?_)
  · have e : b = c := by have := eq_of_beq hab; injection this
    subst e
    exact wpAny_bind (wpAny_rule (wpAny_pure (by simpa using h)))
  · exact wpAny_bind (eq_bytes (wpAny_truthy_bool h))
theorem items_eq : ∀ (bs cs : List (Array UInt8)), ((List.range (min bs.length cs.length)).all (fun j => (bs.getD j #[]).toList == (cs.getD j #[]).toList) && bs.length == cs.length) = decide (bs = cs) := by
  intro bs cs
  rw [Bool.eq_iff_iff]
  simp only [Bool.and_eq_true, List.all_eq_true, List.mem_range, beq_iff_eq, decide_eq_true_eq]
  constructor
  · rintro ⟨h1, h2⟩
    refine List.ext_getElem h2 fun i hi hj => ?_
    have := h1 i (by omega)
    simp only [List.getD_eq_getElem?_getD, List.getElem?_eq_getElem hi, List.getElem?_eq_getElem hj, Option.getD_some] at this
    exact Array.toList_inj.mp this
  · rintro rfl
    exact ⟨fun _ _ => rfl, rfl⟩
section
variable {prog : Program} {w : World} {A : Around} {E : Value → Shared → Prop} {s : Shared} {l m : Addr} {vs us : List Value} {bs cs : List (Array UInt8)} {Q : Value → Shared → Prop}
theorem at_items (hv : BytesAre vs bs) (hu : BytesAre us cs) : ∀ j (h1 : j < vs.toArray.size) (h2 : j < us.toArray.size), EqAt A s vs.toArray[j] us.toArray[j] ((bs.getD j #[]).toList == (cs.getD j #[]).toList) := by
  intro j h1 h2
  have h1' : j < bs.length := by simpa [hv.length] using h1
  have h2' : j < cs.length := by simpa [hu.length] using h2
  obtain ⟨t, ht⟩ := hv.get j h1'
  obtain ⟨u, hu'⟩ := hu.get j h2'
  have e1 : vs.toArray[j] = .bytes bs[j] t := by
    have : vs[j]? = some vs.toArray[j] := by simp
    rw [ht] at this; exact (Option.some.inj this).symm
  have e2 : us.toArray[j] = .bytes cs[j] u := by
    have : us[j]? = some us.toArray[j] := by simp
    rw [hu'] at this; exact (Option.some.inj this).symm
  rw [e1, e2]
  simp only [List.getD_eq_getElem?_getD, List.getElem?_eq_getElem h1', List.getElem?_eq_getElem h2', Option.getD_some]
  exact eqAt_bytes _ _ _ _
theorem ne_tuples (hl : s.heap.IsTuple l vs.toArray) (hm : s.heap.IsTuple m us.toArray) (hv : BytesAre vs bs) (hu : BytesAre us cs) (hr : A.units < cLine) (h : Q (.bool (!decide (bs = cs))) s) :
    wpAny (model prog w) A (compareOp .NotEq (.ref l) (.ref m)) Q E s := by
  refine RcNeAt.tuples hl hm hr (at_items hv hu) prog w E Q ?_
  simp only [List.size_toArray, hv.length, hu.length, items_eq]
  exact h
theorem eq_tuples (hl : s.heap.IsTuple l vs.toArray) (hm : s.heap.IsTuple m us.toArray) (hv : BytesAre vs bs) (hu : BytesAre us cs) (hr : A.units < cLine) (h : Q (.bool (decide (bs = cs))) s) :
    wpAny (model prog w) A (compareOp .Eq (.ref l) (.ref m)) Q E s := by
  refine RcAt.tuples hl hm hr (at_items hv hu) prog w E Q ?_
  simp only [List.size_toArray, hv.length, hu.length, items_eq]
  exact h
end
end Mine

-- part RxD
namespace Mine
open PySem PySem.W PySem.Calls PyProof.Rows
theorem look_match_bool : typeLookup (.type "re.Match") "__bool__" = pure none := by rw [typeLookup_type, builtinLookup_eq_fast]; kernel_rfl
theorem look_match_len : typeLookup (.type "re.Match") "__len__" = pure none := by rw [typeLookup_type, builtinLookup_eq_fast]; kernel_rfl
/-- what ParseFlags hands back for a row b -/
def Parsed (b : Array UInt8) (ws : List (Array UInt8)) : Prop :=
  ((∀ p e, Reach (nats b) p → ¬ Hit (nats b) p e) ∧ ws = []) ∨
  ∃ p e, Reach (nats b) p ∧ Hit (nats b) p e ∧ (∀ p' e', p < p' → Reach (nats b) p' → ¬ Hit (nats b) p' e') ∧ ws = (splitWs (b.extract (p + 7) e)).map (·.toArray)
section
variable {prog : Program} {w : World} {A : Around} {E : Value → Shared → Prop} {s : Shared} {h₀ : Heap} {L : Addr} {m : Str → Option Value} {news : List (Addr × Obj)} {K : Frag}
theorem truthy_match {M : Model} {a : Addr} {o : Obj} {Q : Bool → Shared → Prop} (ho : s.heap.get? a = some o) (hc : o.cls = .type "re.Match") (h : Q true s) : wpAny M A (truthy (.ref a)) Q E s := by
  have hT : s.TypeIs (.ref a) "re.Match" := ⟨o, ho, hc⟩
  unfold truthy
  refine wpAny_bind ?_
  unfold callSpecial?
  refine wpAny_bind (wpAny_specialOf hT look_match_bool ?_)
  refine wpAny_pure ?_
  refine wpAny_bind (wpAny_specialOf hT look_match_len ?_)
  exact wpAny_pure h
theorem match_K {P c : Addr} {x0 x1 x3 x4 : Value} {t2 t6 t : Tok} {cv : Array Value} {n : Nat} {b : Array UInt8} {Q : Value → Shared → Prop} (F : Fr h₀ L s.heap m) (N : News h₀ L s.heap news) (X : K.In h₀)
    (hP : K.lookup P = some { cls := .type "re.Pattern", data := .fields #[x0, x1, .int 1 t2, x3, x4, .ref c, .int 1 t6] }) (hc : K.lookup c = some { cls := .type "tuple", data := .seq cv n })
    (hcode : (cv.map Builtin.Re.reRawOf).map (·.toNat) = rxCode) (hsz : b.size ≤ 16777216)
    (hno : (∀ p e, Reach (nats b) p → ¬ Hit (nats b) p e) → Q .none s)
    (hyes : ∀ p e, Reach (nats b) p → Hit (nats b) p e → (∀ p' e', p < p' → Reach (nats b) p' → ¬ Hit (nats b) p' e') → ∀ a a' h', Fr h₀ L h' m →
      News h₀ L h' ((a, mkMatch P a' b t) :: (a', mkTup [rawInt 0, rawInt ((e + 1 : Nat) : Int), rawInt ((p + 7 : Nat) : Int), rawInt (e : Int)]) :: news) → Q (.ref a) { s with heap := h' }) :
    wpAny (model prog w) A (call (.builtin "re.Pattern.match") [.ref P, .bytes b t]) Q E s := by
  refine call_match (F.keep _ _ (X _ _ hP)) rfl rfl (F.keep _ _ (X _ _ hc)) rfl hcode hsz hno fun p e h1 h2 h3 => ?_
  have e1 : (s.heap.push (mkTup [rawInt 0, rawInt ((e + 1 : Nat) : Int), rawInt ((p + 7 : Nat) : Int), rawInt (e : Int)])).objs.size = s.heap.objs.size + 1 := by rw [Heap.size_push]
  have F1 := F.push (mkTup [rawInt 0, rawInt ((e + 1 : Nat) : Int), rawInt ((p + 7 : Nat) : Int), rawInt (e : Int)])
  have N1 := N.push F (mkTup [rawInt 0, rawInt ((e + 1 : Nat) : Int), rawInt ((p + 7 : Nat) : Int), rawInt (e : Int)])
  have N2 := N1.push F1 (mkMatch P s.heap.objs.size b t)
  rw [e1] at N2
  exact hyes p e h1 h2 h3 _ _ _ (F1.push _) N2
theorem group_K {mA P sp d : Addr} {x0 x1 x2 x4 x5 x6 : Value} {b : Array UInt8} {p e : Nat} {t u u5 u6 : Tok} {ep : Nat} {Q : Value → Shared → Prop} {i1 : Int} (F : Fr h₀ L s.heap m) (N : News h₀ L s.heap news) (X : K.In h₀)
    (hm : (mA, mkMatch P sp b t) ∈ news) (hsp : (sp, mkTup [rawInt 0, rawInt i1, rawInt (p : Int), rawInt (e : Int)]) ∈ news)
    (hP : K.lookup P = some { cls := .type "re.Pattern", data := .fields #[x0, x1, x2, .ref d, x4, x5, x6] })
    (hd : K.lookup d = some { cls := .type "dict", data := .dict #[{ hash := PyData.keyHash w.params (PySem.Str.ofString "flags"), key := .str (PySem.Str.ofString "flags") u5, val := .int 1 u6 }] ep })
    (hsz : b.size ≤ 16777216) (h : ∀ t' k, Q (.bytes (b.extract p e) t') { s with toks := k }) :
    wpAny (model prog w) A (call (.builtin "re.Match.group") [.ref mA, .str (PySem.Str.ofString "flags") u]) Q E s :=
  call_group (N.get hm) rfl rfl (N.get hsp) rfl (F.keep _ _ (X _ _ hP)) rfl (F.keep _ _ (X _ _ hd)) ⟨rfl, rfl, rfl⟩ rfl hsz h
theorem split_K {b : Array UInt8} {t : Tok} {Q : Value → Shared → Prop} (F : Fr h₀ L s.heap m) (N : News h₀ L s.heap news) (hsz : b.size ≤ 1000000)
    (h : ∀ vs a h' k, BytesAre vs ((splitWs b).map (·.toArray)) → Fr h₀ L h' m → News h₀ L h' ((a, listOf vs.toArray 0) :: news) → Q (.ref a) { s with heap := h', toks := k }) :
    wpAny (model prog w) A (call (.builtin "bytes.split") [.bytes b t]) Q E s :=
  call_split hsz fun vs k hb => h vs _ _ k hb (F.push _) (N.push F _)
theorem tuple_K {l : Addr} {vs : List Value} {n : Nat} {Q : Value → Shared → Prop} (F : Fr h₀ L s.heap m) (N : News h₀ L s.heap news) (hl : (l, listOf vs.toArray n) ∈ news) (hz : vs.length ≤ 1000001)
    (h : ∀ D h', Fr h₀ L h' m → News h₀ L h' ((D, mkTup vs) :: news) → Q (.ref D) { s with heap := h' }) : wpAny (model prog w) A (call (.type "tuple") [.ref l]) Q E s := by
  refine call_tuple_list ⟨_, N.get hl, rfl, n, rfl⟩ (fun h' hk => ?_) (by rw [sizeLine_eq, List.size_toArray]; omega)
  have F' : Fr h₀ L h' m := F.keeps hk
  have N' : News h₀ L h' news := fun p hp => ⟨hk _ _ (N p hp).1, (N p hp).2⟩
  exact h _ _ (F'.push _) (N'.push F' _)
end
end Mine

-- part RxL
namespace Mine
open PySem PySem.W PySem.Calls PyProof.Rows PyProof.V
/-- a mark at which the walk stands still -/
def Stop (P : Prop) : Prop := P
theorem stop_intro {P : Prop} (h : Stop P) : P := h
theorem stop_out {P : Prop} (h : P) : Stop P := h
/-- a turn's end: the state of the next turn stands, the loop's iterator too -/
def TurnEnd (h₀ : Heap) (L : Addr) (J : (Str → Option Value) → List (Addr × Obj) → Prop) (I : Addr) (oI : Obj) (s₁ s₂ : Shared) : Prop :=
  ∃ h' tk m' news' nx, s₂ = { s₁ with heap := h', toks := tk } ∧ Fr h₀ L h' m' ∧ News h₀ L h' news' ∧ (∀ p ∈ nx, p ∈ news') ∧ (I, oI) ∈ news' ∧ J m' nx
def TurnPost (h₀ : Heap) (L : Addr) (J : (Str → Option Value) → List (Addr × Obj) → Prop) (I : Addr) (oI : Obj) (s₁ : Shared) (Q : Flow → Shared → Prop) (f : Flow) (s₂ : Shared) : Prop :=
  match f with
  | .ret v => Q (.ret v) s₂
  | .brk => Q .next s₂
  | _ => TurnEnd h₀ L J I oI s₁ s₂
theorem TurnEnd.intro {h₀ h' : Heap} {L I : Addr} {oI : Obj} {J : (Str → Option Value) → List (Addr × Obj) → Prop} {m' : Str → Option Value} {news' : List (Addr × Obj)} {s₁ : Shared} {tk : Nat} (nx : List (Addr × Obj)) (F : Fr h₀ L h' m') (N : News h₀ L h' news')
    (hn : ∀ p ∈ nx, p ∈ news') (ho : (I, oI) ∈ news') (hj : J m' nx) : TurnEnd h₀ L J I oI s₁ { s₁ with heap := h', toks := tk } := ⟨h', tk, m', news', nx, rfl, F, N, hn, ho, hj⟩
section
variable {prog : Program} {w : World} {A : Around} {E : Value → Shared → Prop} {s : Shared} {env : Env} {h₀ : Heap} {x : Str} {body : List Stmt} {Q : Flow → Shared → Prop}
theorem range_loop {r : Addr} {a₀ b₀ c₀ : Int} {t₀ u₀ v₀ : Tok} (n : Nat) {m₀ : Str → Option Value} {news : List (Addr × Obj)} (J : Nat → (Str → Option Value) → List (Addr × Obj) → Prop) (nx₀ : List (Addr × Obj))
    (hh : A.handled = none) (hr : IsRange s.heap r a₀ b₀ c₀ t₀ u₀ v₀) (hsmall : Builtin.Range.small a₀ b₀ c₀ = true) (hsz : Builtin.Range.rangeSize a₀ b₀ c₀ = (n : Int)) (F : Fr h₀ env.locals s.heap m₀) (N : News h₀ env.locals s.heap news)
    (hn : ∀ p ∈ nx₀, p ∈ news) (hj : J 0 m₀ nx₀) (hcls : ∀ i m nx, J i m nx → ∀ p ∈ nx, p.2.cls ≠ .type "range_iterator")
    (turn : ∀ i t m₁ nx h tk I oI, i < n → J i m₁ nx → (∀ p ∈ nx, p.1 ≠ I) → Fr h₀ env.locals h (fun y => if y = x then some (.int (a₀ + i * c₀) t) else m₁ y) → News h₀ env.locals h (nx ++ [(I, oI)]) →
      wpAny (model prog w) A (execs body env) (TurnPost h₀ env.locals (J (i + 1)) I oI { s with heap := h, toks := tk } Q) E { s with heap := h, toks := tk })
    (done : ∀ m₁ nx h tk, J n m₁ nx → Fr h₀ env.locals h m₁ → News h₀ env.locals h nx → Q .next { s with heap := h, toks := tk }) :
    wpAny (model prog w) A (pyIter (.ref r)) (fun it s₂ => LoopAtV prog w A h₀ env x body Q E it s₂) E s := by
  refine wpAny_pyIter_range hr hsmall ?_
  have W := Walks.range (prog := prog) (w := w) hh s.heap.objs.size a₀ c₀ n
  refine ⟨_, _, _, n, _, _, m₀, nx₀, J, rfl, W, ?_, ?_, ?_, ?_, F.push _, (fun p hp => ⟨Heap.get?_push_of_some _ (N p (hn p hp)).1, (N p (hn p hp)).2⟩), hj, ?_, ?_⟩
  · intro hm
    exact absurd F.ns.lt ((List.mem_singleton.mp hm) ▸ Nat.lt_irrefl _)
  · intro b hb
    rw [List.mem_singleton.mp hb]
    exact next_is_new F
  · intro p hp hI
    exact absurd (Heap.lt_size (N p (hn p hp)).1) ((List.mem_singleton.mp hI) ▸ Nat.lt_irrefl _)
  · show IsRangeIter _ _ _ _ _
    rw [hsz]; simpa using Heap.get?_push_size _ rfl
  · rintro i v m₁ nx s₁ own ⟨hh', tk', rfl⟩ hin ⟨t, rfl⟩ hJ hoff hown hget hfp hst F₁ N₁
    have hI0 : h₀.get? s.heap.objs.size = none := next_is_new F
    obtain ⟨oI, hoI, hIc⟩ : ∃ oI, hh'.get? s.heap.objs.size = some oI ∧ oI.cls = .type "range_iterator" := ⟨_, hst, rfl⟩
    have hIown := hfp s.heap.objs.size (List.mem_singleton.mpr rfl) hI0 _ hoI
    have N₂ := fun p (hp : p ∈ nx ++ [(s.heap.objs.size, oI)]) => N₁ p ((List.mem_append.mp hp).elim (fun h => List.mem_append.mpr (.inr h)) fun h => List.mem_append.mpr (.inl ((List.mem_singleton.mp h) ▸ hIown)))
    refine wpAny_mono (turn i t m₁ nx hh' tk' s.heap.objs.size oI hin hJ (fun p hp e => hoff p hp (List.mem_singleton.mpr e)) F₁ N₂) (fun f s₂ p => ?_) fun _ _ e => e
    have fin : TurnEnd h₀ env.locals (J (i + 1)) s.heap.objs.size oI { s with heap := hh', toks := tk' } s₂ → LoopStepU h₀ env.locals [s.heap.objs.size] own (J (i + 1)) { s with heap := hh', toks := tk' } .next s₂ := by
      rintro ⟨h', tk, m', news', nx', e, F', N', hn', ho, hm⟩
      refine ⟨rfl, h', tk, m', nx', e, F', fun p hp => ?_, fun p hp hq => ?_, hm⟩
      · rcases List.mem_append.mp hp with hp | hp
        · have e1 : p.1 = s.heap.objs.size := List.mem_singleton.mp (hown p hp)
          have e2 := hget p hp
          rw [e1] at e2
          have e3 : p = (s.heap.objs.size, oI) := Prod.ext e1 (Option.some.inj (e2.symm.trans hoI))
          exact N' p (e3 ▸ ho)
        · exact N' p (hn' p hp)
      · have e1 : p.1 = s.heap.objs.size := List.mem_singleton.mp hq
        have e2 := (N' p (hn' p hp)).1
        have e3 := (N' _ ho).1
        rw [e1, e3] at e2
        exact hcls _ _ _ hm p hp ((Option.some.inj e2) ▸ hIc)
    cases f with
    | ret v => exact .ret p
    | brk => exact .brk p
    | next => exact .next (fin p)
    | cont => exact .cont (fin p)
  · rintro h' tk m' news' F' N' _ hJ
    exact done m' news' h' tk hJ F' N'
theorem list_loop {l : Addr} {vs : List Value} {nn : Nat} {m₀ : Str → Option Value} {news : List (Addr × Obj)} (J : Nat → (Str → Option Value) → List (Addr × Obj) → Prop) (nx₀ : List (Addr × Obj))
    (hh : A.handled = none) (hl : (l, listOf vs.toArray nn) ∈ news) (F : Fr h₀ env.locals s.heap m₀) (N : News h₀ env.locals s.heap news) (hn : ∀ p ∈ nx₀, p ∈ news) (hj : J 0 m₀ nx₀)
    (hcls : ∀ i m nx, J i m nx → ∀ p ∈ nx, p.2.cls ≠ .type "list_iterator") (hls : ∀ i m nx, J i m nx → (l, listOf vs.toArray nn) ∈ nx)
    (turn : ∀ i v m₁ nx h tk I oI, vs[i]? = some v → J i m₁ nx → (∀ p ∈ nx, p.1 ≠ I) → Fr h₀ env.locals h (fun y => if y = x then some v else m₁ y) → News h₀ env.locals h (nx ++ [(I, oI)]) →
      wpAny (model prog w) A (execs body env) (TurnPost h₀ env.locals (J (i + 1)) I oI { s with heap := h, toks := tk } Q) E { s with heap := h, toks := tk })
    (done : ∀ m₁ nx h tk, J vs.length m₁ nx → Fr h₀ env.locals h m₁ → News h₀ env.locals h nx → Q .next { s with heap := h, toks := tk }) :
    wpAny (model prog w) A (pyIter (.ref l)) (fun it s₂ => LoopAtV prog w A h₀ env x body Q E it s₂) E s := by
  have hol : s.heap.get? l = some (listOf vs.toArray nn) := (N _ hl).1
  have hlS : s.heap.IsList l vs.toArray := ⟨_, hol, rfl, nn, rfl⟩
  have hne : l ≠ s.heap.objs.size := Nat.ne_of_lt (Heap.lt_size hol)
  refine wpAny_pyIter_list hlS ?_
  have W := Walks.list (prog := prog) (w := w) hh s.heap.objs.size l hne vs.toArray
  have hlen : vs.toArray.size = vs.length := by simp
  rw [hlen] at W
  refine ⟨_, _, _, vs.length, _, _, m₀, nx₀, J, rfl, W, ?_, ?_, ?_, ⟨⟨_, Heap.get?_push_size _ rfl, rfl, rfl⟩, hlS.at fun o e => Heap.get?_push_of_some _ e⟩, F.push _, (fun p hp => ⟨Heap.get?_push_of_some _ (N p (hn p hp)).1, (N p (hn p hp)).2⟩), hj, ?_, ?_⟩
  · intro hm
    rcases List.mem_cons.mp hm with e | hm
    · exact absurd F.ns.lt (e ▸ Nat.lt_irrefl _)
    · exact (N _ hl).2.1 ((List.mem_singleton.mp hm).symm)
  · intro b hb
    rw [List.mem_singleton.mp hb]
    exact next_is_new F
  · intro p hp hI
    exact absurd (Heap.lt_size (N p (hn p hp)).1) ((List.mem_singleton.mp hI) ▸ Nat.lt_irrefl _)
  · rintro i v m₁ nx s₁ own ⟨hh', tk', rfl⟩ hin hP hJ hoff hown hget hfp hst F₁ N₁
    have hP' : vs[i]? = some v := by simpa using hP
    have hI0 : h₀.get? s.heap.objs.size = none := next_is_new F
    obtain ⟨⟨oI, hoI, hIc, hId⟩, _⟩ := id hst
    have hIown := hfp s.heap.objs.size (List.mem_cons_self ..) hI0 _ hoI
    have N₂ := fun p (hp : p ∈ nx ++ [(s.heap.objs.size, oI)]) => N₁ p ((List.mem_append.mp hp).elim (fun h => List.mem_append.mpr (.inr h)) fun h => List.mem_append.mpr (.inl ((List.mem_singleton.mp h) ▸ hIown)))
    refine wpAny_mono (turn i v m₁ nx hh' tk' s.heap.objs.size oI hP' hJ (fun p hp e => hoff p hp (List.mem_singleton.mpr e)) F₁ N₂) (fun f s₂ p => ?_) fun _ _ e => e
    have hlo : hh'.get? l = some (listOf vs.toArray nn) := (N₁ _ (List.mem_append.mpr (.inr (hls _ _ _ hJ)))).1
    have fin : TurnEnd h₀ env.locals (J (i + 1)) s.heap.objs.size oI { s with heap := hh', toks := tk' } s₂ → LoopStepU h₀ env.locals [s.heap.objs.size] own (J (i + 1)) { s with heap := hh', toks := tk' } .next s₂ := by
      rintro ⟨h', tk, m', news', nx', e, F', N', hn', ho, hm⟩
      refine ⟨rfl, h', tk, m', nx', e, F', fun p hp => ?_, fun p hp hq => ?_, hm⟩
      · rcases List.mem_append.mp hp with hp | hp
        · rcases List.mem_cons.mp (hown p hp) with e1 | e1
          · have e2 := hget p hp
            rw [e1] at e2
            have e3 : p = (s.heap.objs.size, oI) := Prod.ext e1 (Option.some.inj (e2.symm.trans hoI))
            exact N' p (e3 ▸ ho)
          · have e1 := List.mem_singleton.mp e1
            have e2 := hget p hp
            rw [e1] at e2
            have e3 : p = (l, listOf vs.toArray nn) := Prod.ext e1 (Option.some.inj (e2.symm.trans hlo))
            exact N' p (e3 ▸ hn' _ (hls _ _ _ hm))
        · exact N' p (hn' p hp)
      · have e1 : p.1 = s.heap.objs.size := List.mem_singleton.mp hq
        have e2 := (N' p (hn' p hp)).1
        have e3 := (N' _ ho).1
        rw [e1, e3] at e2
        exact hcls _ _ _ hm p hp ((Option.some.inj e2) ▸ hIc)
    cases f with
    | ret v => exact .ret p
    | brk => exact .brk p
    | next => exact .next (fin p)
    | cont => exact .cont (fin p)
  · rintro h' tk m' news' F' N' _ hJ
    exact done m' news' h' tk hJ F' N'
end
end Mine

-- part P2b
namespace Mine
open PySem PySem.W PySem.Calls PyProof.Rows
theorem fr_over {h₀ h : Heap} {L : Addr} {m : Str → Option Value} {x : Str} {v : Value} (F : Fr h₀ L h m) (e : m x = some v) : Fr h₀ L h (fun y => if y = x then some v else m y) := by
  have : (fun y => if y = x then some v else m y) = m := by
    funext y
    by_cases h : y = x
    · rw [if_pos h, h, e]
    · rw [if_neg h]
  rw [this]; exact F
/-- one octet of the loop of _law_words -/
def wStep (st : List (Array UInt8) × List UInt8) (c : UInt8) : List (Array UInt8) × List UInt8 :=
  if Builtin.Bytes.isSpace c = true then (if st.2 = [] then st.1 else st.1 ++ [st.2.toArray], []) else (st.1, st.2 ++ [c])
def wFin (st : List (Array UInt8) × List UInt8) : List (Array UInt8) := if st.2 = [] then st.1 else st.1 ++ [st.2.toArray]
def wRun (b : Array UInt8) (i j : Nat) : List (Array UInt8) × List UInt8 := (b.extract i j).toList.foldl wStep ([], [])
abbrev bInts (wd : List UInt8) : List Int := wd.map fun c => (c.toNat : Int)
structure WordsJ (b : Array UInt8) (t : Tok) (i : Nat) (k : Nat) (m : Str → Option Value) (nx : List (Addr × Obj)) : Prop where
  ex : ∃ (A W : Addr) (vs us : List Value) (n1 n2 : Nat), nx = [(W, PySem.W.listOf us.toArray n2), (A, PySem.W.listOf vs.toArray n1)] ∧ W ≠ A ∧ BytesAre vs (wRun b i (i + k)).1 ∧ IntsAre us (bInts (wRun b i (i + k)).2) ∧
    m (Str.ofString "word") = some (.ref W) ∧ m (Str.ofString "words") = some (.ref A) ∧ m (Str.ofString "row") = some (.bytes b t) ∧ us.length ≤ k ∧ vs.length ≤ k
theorem rangeSize_up {a b : Int} (h : a ≤ b) : Builtin.Range.rangeSize a b 1 = ((b - a).toNat : Int) := by
  unfold Builtin.Range.rangeSize
  rw [if_pos (by decide)]
  split <;> omega
theorem small_up {a b : Int} (h0 : 0 ≤ a) (h : a ≤ b) (hb : b ≤ 1000000) : Builtin.Range.small a b 1 = true := by
  exact small_one (by omega) (by omega) (by omega) (by omega)
section
variable {prog : Program} {w : World} {A : Around} {E : Value → Shared → Prop} {s : Shared} {h₀ : Heap} {L : Addr} {m : Str → Option Value} {news : List (Addr × Obj)}
theorem item_B {b : Array UInt8} {k : Int} {t u : Tok} {value slice : Expr} {Q : Value → Shared → Prop} (hb : b.size ≤ 100000) (h0 : 0 ≤ k) (h1 : k < (b.size : Int)) (h : Q (.int ((b.getD k.toNat 0).toNat : Nat) s.toks) { s with toks := s.toks + 1 })
    (hs : ∀ c : Array UInt8, subscripted slice false (.bytes c t) (.int k u) = operate [.bytes c t, .int k u] (getItem (.bytes c t) (.int k u)))
    (ht : ∀ (c : Array UInt8) r, letTemporaryGo value (.bytes c t) r = pure ()) : wpAny (model prog w) A (subscriptTail value slice (.bytes b t) (.int k u)) Q E s := by
  have e : b = b.toList.toArray := by simp
  have e2 : b.getD k.toNat 0 = b.toList.getD k.toNat 0 := by simp
  rw [e2] at h
  rw [e]
  exact KBy.item_N (x := b.toList) (by rw [Array.length_toList]; omega) h0 (by rw [Array.length_toList]; exact h1) h (hs _) (ht _)
theorem ne_nil_K {W l : Addr} {us : List Value} {ns : List Int} {n k : Nat} {Q : Value → Shared → Prop} (N : News h₀ L s.heap news) (hw : (W, PySem.W.listOf us.toArray n) ∈ news) (hl : (l, PySem.W.listOf #[] k) ∈ news) (hi : IntsAre us ns) (hu : A.units + 64 < cLine) (h : Q (.bool (!decide (ns = []))) s) :
    wpAny (model prog w) A (compareOp .NotEq (.ref W) (.ref l)) Q E s :=
  ke_ne_ints (ys := []) (ms := []) ⟨_, N.get hw, rfl, n, rfl⟩ ⟨_, N.get hl, rfl, k, rfl⟩ hi .nil hu h
theorem byteArr_bInts (wd : List UInt8) : byteArr (bInts wd) = wd.toArray := by
  unfold byteArr bInts
  rw [List.map_map]
  have : ((fun n : Int => n.toNat.toUInt8) ∘ fun c : UInt8 => (c.toNat : Int)) = id := by
    funext c
    simp
  rw [this, List.map_id]
theorem bInts_in (wd : List UInt8) : ∀ n ∈ bInts wd, 0 ≤ n ∧ n < 256 := by
  intro n hn
  obtain ⟨c, _, rfl⟩ := List.mem_map.mp hn
  have := c.toNat_lt
  omega
theorem bytes_W {l : Addr} {us : List Value} {wd : List UInt8} {n : Nat} {Q : Value → Shared → Prop} (F : Fr h₀ L s.heap m) (N : News h₀ L s.heap news) (hl : (l, PySem.W.listOf us.toArray n) ∈ news) (hi : IntsAre us (bInts wd)) (hz : us.length ≤ 1000000) (hh : A.handled = none)
    (h : ∀ h' t k, Fr h₀ L h' m → News h₀ L h' news → Q (.bytes wd.toArray t) { s with heap := h', toks := k }) : wpAny (model prog w) A (call (.type "bytes") [.ref l]) Q E s := by
  refine call_bytes_ints ⟨_, N.get hl, rfl, n, rfl⟩ hi (bInts_in wd) (by rw [sizeLine_eq]; omega) hh fun h' t k hk => ?_
  rw [byteArr_bInts]
  exact h h' t k (F.keeps hk) (fun q hq => ⟨hk _ _ (N q hq).1, (N q hq).2⟩)
end
theorem space_of {c : UInt8} (h : (c.toNat : Int) = 32 ∨ (9 ≤ (c.toNat : Int) ∧ (c.toNat : Int) ≤ 13)) : Builtin.Bytes.isSpace c = true := by
  unfold Builtin.Bytes.isSpace
  simp only [Bool.or_eq_true, Bool.and_eq_true, beq_iff_eq, decide_eq_true_eq, UInt8.le_iff_toNat_le, ← UInt8.toNat_inj]
  have h1 : (32 : UInt8).toNat = 32 := rfl
  have h2 : (9 : UInt8).toNat = 9 := rfl
  have h3 : (13 : UInt8).toNat = 13 := rfl
  omega
theorem space_not {c : UInt8} (h : ¬ ((c.toNat : Int) = 32 ∨ (9 ≤ (c.toNat : Int) ∧ (c.toNat : Int) ≤ 13))) : Builtin.Bytes.isSpace c = false := by
  rw [Bool.eq_false_iff]
  unfold Builtin.Bytes.isSpace
  simp only [ne_eq, Bool.or_eq_true, Bool.and_eq_true, beq_iff_eq, decide_eq_true_eq, UInt8.le_iff_toNat_le, ← UInt8.toNat_inj]
  have h1 : (32 : UInt8).toNat = 32 := rfl
  have h2 : (9 : UInt8).toNat = 9 := rfl
  have h3 : (13 : UInt8).toNat = 13 := rfl
  omega
theorem wRun_succ (b : Array UInt8) (i k : Nat) (h : i + k < b.size) : wRun b i (i + (k + 1)) = wStep (wRun b i (i + k)) (b.getD (i + k) 0) := by
  unfold wRun
  have e : b.extract i (i + k + 1) = (b.extract i (i + k)).push b[i + k] := by
    rw [Array.extract_succ_right (by omega) h]
  rw [← Nat.add_assoc, e, Array.toList_push, List.foldl_append]
  simp [Array.getD, h]
theorem IntsAre.snoc {us : List Value} {ns : List Int} (h : IntsAre us ns) (n : Int) (t : Tok) : IntsAre (us ++ [.int n t]) (ns ++ [n]) := by
  induction h with
  | nil => exact .cons _ _ .nil
  | cons _ _ _ ih => exact .cons _ _ ih
theorem BytesAre.snoc {vs : List Value} {bs : List (Array UInt8)} (h : BytesAre vs bs) (b : Array UInt8) (t : Tok) : BytesAre (vs ++ [.bytes b t]) (bs ++ [b]) := by
  induction h with
  | nil => exact .cons _ .nil
  | cons _ _ ih => exact .cons _ ih
section
variable {g h' : Heap} {L I A W l : Addr} {oI : Obj} {m' : Str → Option Value} {led : List (Addr × Obj)} {b : Array UInt8} {t tk : Tok} {i : Int} {k n1 n2 : Nat} {us vs : List Value} {s₁ : Shared} {tks : Nat}
theorem two_in {α : Type} {x y : α} {l : List α} (hx : x ∈ l) (hy : y ∈ l) : ∀ p ∈ [x, y], p ∈ l := fun p hp => by
  rcases List.mem_cons.mp hp with rfl | hp
  · exact hx
  · exact List.mem_singleton.mp hp ▸ hy
theorem turn_plain (hi : 0 ≤ i) (hk : i + k < b.size) (F : Fr g L h' m') (N : News g L h' led) (hW : (W, PySem.W.listOf (us.toArray.push (.int ((b.getD (i + k * 1).toNat 0).toNat : Nat) tk)) n2) ∈ led) (hA : (A, PySem.W.listOf vs.toArray n1) ∈ led) (hI : (I, oI) ∈ led)
    (hWA : W ≠ A) (hv : BytesAre vs (wRun b i.toNat (i.toNat + k)).1) (hu : IntsAre us (bInts (wRun b i.toNat (i.toNat + k)).2)) (hlu : us.length ≤ k) (hlv : vs.length ≤ k)
    (hs : Builtin.Bytes.isSpace (b.getD (i + k * 1).toNat 0) = false) (e1 : m' (Str.ofString "word") = some (.ref W)) (e2 : m' (Str.ofString "words") = some (.ref A)) (e3 : m' (Str.ofString "row") = some (.bytes b t)) :
    TurnEnd g L (fun m nx => WordsJ b t i.toNat (k + 1) m nx) I oI s₁ { s₁ with heap := h', toks := tks } := by
  have ei : (i + (k : Int) * 1).toNat = i.toNat + k := by omega
  rw [ei] at hs hW
  refine TurnEnd.intro _ F N (two_in hW hA) hI ⟨⟨A, W, vs, us ++ [.int ((b.getD (i.toNat + k) 0).toNat : Nat) tk], n1, n2, by simp, hWA, ?_, ?_, e1, e2, e3, by simp; omega, by omega⟩⟩
  · rw [wRun_succ b _ _ (by omega)]
    simp only [wStep, hs, Bool.false_eq_true, if_false]
    exact hv
  · rw [wRun_succ b _ _ (by omega)]
    simp only [wStep, hs, Bool.false_eq_true, if_false, bInts, List.map_append, List.map_cons, List.map_nil]
    exact IntsAre.snoc hu _ _
theorem turn_blank (hi : 0 ≤ i) (hk : i + k < b.size) (F : Fr g L h' m') (N : News g L h' led) (hW : (W, PySem.W.listOf #[] n2) ∈ led) (hA : (A, PySem.W.listOf vs.toArray n1) ∈ led) (hI : (I, oI) ∈ led)
    (hWA : W ≠ A) (hv : BytesAre vs (wRun b i.toNat (i.toNat + k)).1) (hlv : vs.length ≤ k) (hn : (wRun b i.toNat (i.toNat + k)).2 = [])
    (hs : Builtin.Bytes.isSpace (b.getD (i + k * 1).toNat 0) = true) (e1 : m' (Str.ofString "word") = some (.ref W)) (e2 : m' (Str.ofString "words") = some (.ref A)) (e3 : m' (Str.ofString "row") = some (.bytes b t)) :
    TurnEnd g L (fun m nx => WordsJ b t i.toNat (k + 1) m nx) I oI s₁ { s₁ with heap := h', toks := tks } := by
  have ei : (i + (k : Int) * 1).toNat = i.toNat + k := by omega
  rw [ei] at hs
  refine TurnEnd.intro _ F N (two_in hW hA) hI ⟨⟨A, W, vs, [], n1, n2, rfl, hWA, ?_, ?_, e1, e2, e3, by simp, by omega⟩⟩
  · rw [wRun_succ b _ _ (by omega)]
    simp only [wStep, hs, if_true, hn]
    exact hv
  · rw [wRun_succ b _ _ (by omega)]
    simp only [wStep, hs, if_true]
    exact .nil
theorem turn_word (hi : 0 ≤ i) (hk : i + k < b.size) (F : Fr g L h' m') (N : News g L h' led) (hW : (W, PySem.W.listOf #[] n2) ∈ led) (hA : (A, PySem.W.listOf (vs.toArray.push (.bytes (wRun b i.toNat (i.toNat + k)).2.toArray tk)) n1) ∈ led) (hI : (I, oI) ∈ led)
    (hWA : W ≠ A) (hv : BytesAre vs (wRun b i.toNat (i.toNat + k)).1) (hlv : vs.length ≤ k) (hn : (wRun b i.toNat (i.toNat + k)).2 ≠ [])
    (hs : Builtin.Bytes.isSpace (b.getD (i + k * 1).toNat 0) = true) (e1 : m' (Str.ofString "word") = some (.ref W)) (e2 : m' (Str.ofString "words") = some (.ref A)) (e3 : m' (Str.ofString "row") = some (.bytes b t)) :
    TurnEnd g L (fun m nx => WordsJ b t i.toNat (k + 1) m nx) I oI s₁ { s₁ with heap := h', toks := tks } := by
  have ei : (i + (k : Int) * 1).toNat = i.toNat + k := by omega
  rw [ei] at hs
  refine TurnEnd.intro _ F N (two_in hW hA) hI ⟨⟨A, W, vs ++ [.bytes (wRun b i.toNat (i.toNat + k)).2.toArray tk], [], n1, n2, by simp, hWA, ?_, ?_, e1, e2, e3, by simp, by simp; omega⟩⟩
  · rw [wRun_succ b _ _ (by omega)]
    simp only [wStep, hs, if_true, hn, if_false]
    exact BytesAre.snoc hv _ _
  · rw [wRun_succ b _ _ (by omega)]
    simp only [wStep, hs, if_true]
    exact .nil
end
section
variable {h₀ sH g h' : Heap} {L L' A : Addr} {m' : Str → Option Value} {news led : List (Addr × Obj)} {o : Obj}
theorem back_news (N : News h₀ L sH news) (G : GSub sH g (List.map (fun x => x.1) ([] : List (Addr × Obj)))) (F' : Fr g L' h' m') (kN : News h₀ L h' led) (hA : (A, o) ∈ led) : News h₀ L h' ((A, o) :: news) := fun p hp => by
  rcases List.mem_cons.mp hp with rfl | hp
  · exact kN _ hA
  · exact ⟨F'.keep _ _ (G _ _ (N p hp).1 (by simp)), (N p hp).2⟩
theorem back_ne (N : News h₀ L sH news) (G : GSub sH g (List.map (fun x => x.1) ([] : List (Addr × Obj)))) (N' : News g L' h' led) (hA : (A, o) ∈ led) : ∀ p ∈ news, p.1 ≠ A := fun p hp e => by
  have h1 := G _ _ (N p hp).1 (by simp)
  rw [e, (N' _ hA).2.2] at h1
  cases h1
end
theorem fin_none {b : Array UInt8} {i j : Int} {vs : List Value} (hi : 0 ≤ i) (hij : i ≤ j) (hv : BytesAre vs (wRun b i.toNat (i.toNat + (j - i).toNat)).1) (hn : bInts (wRun b i.toNat (i.toNat + (j - i).toNat)).2 = []) : BytesAre vs (wFin (wRun b i.toNat j.toNat)) := by
  have e : i.toNat + (j - i).toNat = j.toNat := by omega
  rw [e] at hv hn
  unfold wFin
  rw [if_pos (List.map_eq_nil_iff.mp hn)]
  exact hv
theorem fin_some {b : Array UInt8} {i j : Int} {vs : List Value} {t : Tok} (hi : 0 ≤ i) (hij : i ≤ j) (hv : BytesAre vs (wRun b i.toNat (i.toNat + (j - i).toNat)).1) (hn : ¬ bInts (wRun b i.toNat (i.toNat + (j - i).toNat)).2 = []) : BytesAre (vs ++ [.bytes (wRun b i.toNat (i.toNat + (j - i).toNat)).2.toArray t]) (wFin (wRun b i.toNat j.toNat)) := by
  have e : i.toNat + (j - i).toNat = j.toNat := by omega
  rw [e] at hv hn ⊢
  unfold wFin
  rw [if_neg (fun h => hn (List.map_eq_nil_iff.mpr h))]
  exact BytesAre.snoc hv _ _
end Mine

-- part P3b
namespace Mine
open PySem PySem.W PySem.Calls PyProof.Rows
theorem wFold_app : ∀ (text : List UInt8) (ws : List (Array UInt8)) (wd : List UInt8), wFin (text.foldl wStep (ws, wd)) = ws ++ wFin (text.foldl wStep ([], wd))
  | [], ws, wd => by
    simp only [List.foldl_nil, wFin]
    by_cases hw : wd = []
    · simp [hw]
    · simp [hw]
  | c :: r, ws, wd => by
    simp only [List.foldl_cons, wStep]
    by_cases hs : Builtin.Bytes.isSpace c = true
    · simp only [hs, if_true]
      by_cases hw : wd = []
      · simp only [hw, if_true]
        exact wFold_app r ws []
      · simp only [hw, if_false, List.nil_append]
        rw [wFold_app r (ws ++ [wd.toArray]) [], wFold_app r [wd.toArray] [], List.append_assoc]
    · simp only [hs, if_false]
      exact wFold_app r ws (wd ++ [c])
theorem wFold_in : ∀ (text wd : List UInt8), wd ≠ [] → wFin (text.foldl wStep ([], wd)) = (wd ++ text.takeWhile fun x => !Builtin.Bytes.isSpace x).toArray :: wFin ((text.dropWhile fun x => !Builtin.Bytes.isSpace x).foldl wStep ([], []))
  | [], wd, hw => by simp [wFin, hw]
  | c :: r, wd, hw => by
    by_cases hs : Builtin.Bytes.isSpace c = true
    · rw [List.takeWhile_cons_of_neg (by simp [hs]), List.dropWhile_cons_of_neg (by simp [hs]), List.append_nil]
      simp only [List.foldl_cons, wStep, hs, if_true, hw, if_false, List.nil_append]
      rw [wFold_app r [wd.toArray] []]
      rfl
    · rw [List.takeWhile_cons_of_pos (by simpa using hs), List.dropWhile_cons_of_pos (by simpa using hs)]
      simp only [List.foldl_cons, wStep, hs, if_false]
      have := wFold_in r (wd ++ [c]) (by simp)
      simpa using this
theorem wFold_out : ∀ (text : List UInt8), wFin (text.foldl wStep ([], [])) = wFin ((text.dropWhile Builtin.Bytes.isSpace).foldl wStep ([], []))
  | [] => rfl
  | c :: r => by
    by_cases hs : Builtin.Bytes.isSpace c = true
    · rw [List.dropWhile_cons_of_pos hs]
      simp only [List.foldl_cons, wStep, hs, if_true]
      exact wFold_out r
    · rw [List.dropWhile_cons_of_neg hs]
theorem words_fold : ∀ (fuel left : Nat) (text : List UInt8), text.length < fuel → text.length < left → (Builtin.Bytes.words fuel left text).map (·.toArray) = wFin (text.foldl wStep ([], []))
  | 0, _, _, h, _ => absurd h (Nat.not_lt_zero _)
  | fuel + 1, left, text, h1, h2 => by
    rw [wFold_out]
    unfold Builtin.Bytes.words
    have hd : (text.dropWhile Builtin.Bytes.isSpace).length ≤ text.length := (List.dropWhile_suffix _).length_le
    cases hr : text.dropWhile Builtin.Bytes.isSpace with
    | nil => rfl
    | cons c r =>
      have hc : Builtin.Bytes.isSpace c = false := by
        have := List.head_dropWhile_not Builtin.Bytes.isSpace (l := text) (by rw [hr]; simp)
        simpa [hr] using this
      have hl : (left == 0) = false := by
        cases left with
        | zero => omega
        | succ n => rfl
      simp only [hl, Bool.false_eq_true, if_false, List.map_cons]
      have hlen : ((c :: r).dropWhile fun x => !Builtin.Bytes.isSpace x).length ≤ r.length := by
        rw [List.dropWhile_cons_of_pos (by simp [hc])]
        exact (List.dropWhile_suffix _).length_le
      rw [hr] at hd
      simp only [List.length_cons] at hd
      rw [words_fold fuel (left - 1) _ (by omega) (by omega)]
      simp only [List.foldl_cons, wStep, hc, Bool.false_eq_true, if_false, List.nil_append]
      rw [wFold_in r [c] (by simp), List.takeWhile_cons_of_pos (by simp [hc]), List.dropWhile_cons_of_pos (by simp [hc])]
      rfl
theorem words_eq (b : Array UInt8) (i j : Nat) : (splitWs (b.extract i j)).map (·.toArray) = wFin (wRun b i j) := by
  unfold splitWs wRun
  exact words_fold _ _ _ (by rw [Array.length_toList]; omega) (by rw [Array.length_toList]; omega)
def nextF (b : Array UInt8) : Nat → Nat
  | 0 => b.size
  | d + 1 => if b.getD (b.size - (d + 1)) 0 = 41 then b.size - (d + 1) else nextF b d
abbrev nextShut (b : Array UInt8) (k : Nat) : Nat := nextF b (b.size - k)
theorem nextF_spec (b : Array UInt8) : ∀ d, d ≤ b.size → b.size - d ≤ nextF b d ∧ nextF b d ≤ b.size ∧ (∀ j, b.size - d ≤ j → j < nextF b d → b.getD j 0 ≠ 41) ∧ (nextF b d < b.size → b.getD (nextF b d) 0 = 41)
  | 0, _ => ⟨by simp [nextF], Nat.le_refl _, fun j h1 h2 => by simp only [nextF] at h2; omega, fun h => absurd h (Nat.lt_irrefl _)⟩
  | d + 1, hd => by
    obtain ⟨h1, h2, h3, h4⟩ := nextF_spec b d (by omega)
    unfold nextF
    by_cases hc : b.getD (b.size - (d + 1)) 0 = 41
    · rw [if_pos hc]
      exact ⟨Nat.le_refl _, by omega, fun j a b => by omega, fun _ => hc⟩
    · rw [if_neg hc]
      refine ⟨by omega, h2, fun j a b' => ?_, h4⟩
      by_cases e : j = b.size - (d + 1)
      · rw [e]; exact hc
      · exact h3 j (by omega) b'
theorem nats_getD (b : Array UInt8) (j : Nat) : (nats b).getD j 0 = (b.getD j 0).toNat := by
  by_cases h : j < b.size
  · simp [Array.getD, nats, h]
  · simp [Array.getD, nats, h]
def flagsArr : Array UInt8 := #[70, 76, 65, 71, 83, 32, 40]
def lits8 (b : Array UInt8) (k : Nat) : List UInt8 → Prop
  | [] => True
  | c :: r => (k < b.size ∧ b.getD k 0 = c) ∧ lits8 b (k + 1) r
theorem lits8_iff (b : Array UInt8) : ∀ (cs : List UInt8) (k : Nat), lits8 b k cs ↔ (b.toList.drop k).take cs.length = cs
  | [], k => by simp [lits8]
  | c :: r, k => by
    simp only [lits8, lits8_iff b r (k + 1)]
    by_cases h : k < b.size
    · have h' : k < b.toList.length := by rw [Array.length_toList]; exact h
      rw [List.drop_eq_getElem_cons h', List.length_cons, List.take_succ_cons]
      simp [h, Array.getD]
    · simp only [h, false_and, false_iff]
      rw [List.drop_eq_nil_of_le (by rw [Array.length_toList]; omega)]
      simp
theorem flags_iff (b : Array UInt8) (k : Nat) : FlagsAt (nats b) k ↔ b.extract k (k + 7) = flagsArr := by
  have e1 : FlagsAt (nats b) k ↔ lits8 b k [70, 76, 65, 71, 83, 32, 40] := by
    have key : ∀ (c : UInt8) (j : Nat), (j < (nats b).size ∧ (nats b).getD j 0 = c.toNat) ↔ (j < b.size ∧ b.getD j 0 = c) := fun c j => by
      rw [nats_size, nats_getD, UInt8.toNat_inj]
    simp only [FlagsAt, flagsLits, LitsAt, lits8]
    rw [← key 70, ← key 76, ← key 65, ← key 71, ← key 83, ← key 32, ← key 40]
    rfl
  rw [e1, lits8_iff]
  have e2 : (b.extract k (k + 7)).toList = (b.toList.drop k).take 7 := by simp
  constructor
  · intro h
    apply Array.toList_inj.mp
    rw [e2]; exact h
  · intro h
    have := congrArg Array.toList h
    rw [e2] at this
    exact this
open Classical in
noncomputable def toldRun (b : Array UInt8) : Nat → List (Array UInt8)
  | 0 => []
  | k + 1 => if b.extract k (k + 7) = flagsArr ∧ nextShut b (k + 7) < b.size then wFin (wRun b (k + 7) (nextShut b (k + 7))) else toldRun b k
theorem hit_iff (b : Array UInt8) (p e : Nat) : Hit (nats b) p e ↔ (b.extract p (p + 7) = flagsArr ∧ nextShut b (p + 7) < b.size ∧ e = nextShut b (p + 7)) := by
  constructor
  · intro h
    have hf := (flags_iff b p).mp h.flags
    have hle := h.le8
    rw [nats_size] at hle
    obtain ⟨h1, h2, h3, h4⟩ := nextF_spec b (b.size - (p + 7)) (by omega)
    have hlt := h.lt
    rw [nats_size] at hlt
    have hsh := h.shut
    rw [nats_getD] at hsh
    have e41 : b.getD e 0 = 41 := by
      apply UInt8.toNat_inj.mp; rw [hsh]; rfl
    have hge := h.ge
    have a1 : ¬ e < nextShut b (p + 7) := fun hl => h3 e (by omega) hl e41
    have a2 : ¬ nextShut b (p + 7) < e := fun hl => by
      have h5 := h.first (nextShut b (p + 7)) (by show p + 7 ≤ nextF b (b.size - (p + 7)); omega) hl
      rw [nats_getD, h4 (by show nextF b (b.size - (p + 7)) < b.size; have : nextShut b (p + 7) = nextF b (b.size - (p + 7)) := rfl; omega)] at h5
      exact h5 rfl
    have a3 : e = nextShut b (p + 7) := by omega
    exact ⟨hf, a3 ▸ hlt, a3⟩
  · rintro ⟨hf, hlt, rfl⟩
    have hF := (flags_iff b p).mpr hf
    have hle := hF.le
    rw [nats_size] at hle
    obtain ⟨h1, h2, h3, h4⟩ := nextF_spec b (b.size - (p + 7)) (by omega)
    refine ⟨hF, by show p + 7 ≤ nextF b (b.size - (p + 7)); omega, by rw [nats_size]; exact hlt, ?_, fun j a c => ?_⟩
    · rw [nats_getD, h4 hlt]; rfl
    · rw [nats_getD]
      intro x
      exact h3 j (by omega) c (UInt8.toNat_inj.mp x)
theorem told_upto (b : Array UInt8) : ∀ n, ((∀ p e, p < n → ¬ Hit (nats b) p e) ∧ toldRun b n = []) ∨ ∃ p e, p < n ∧ Hit (nats b) p e ∧ (∀ p' e', p < p' → p' < n → ¬ Hit (nats b) p' e') ∧ toldRun b n = wFin (wRun b (p + 7) e)
  | 0 => .inl ⟨fun p e h => absurd h (Nat.not_lt_zero _), rfl⟩
  | n + 1 => by
    unfold toldRun
    by_cases hc : b.extract n (n + 7) = flagsArr ∧ nextShut b (n + 7) < b.size
    · rw [if_pos hc]
      exact .inr ⟨n, nextShut b (n + 7), Nat.lt_succ_self _, (hit_iff b n _).mpr ⟨hc.1, hc.2, rfl⟩, fun p' e' a c => by omega, rfl⟩
    · rw [if_neg hc]
      have no : ∀ e, ¬ Hit (nats b) n e := fun e he => hc ⟨((hit_iff b n e).mp he).1, ((hit_iff b n e).mp he).2.1⟩
      rcases told_upto b n with ⟨h1, h2⟩ | ⟨p, e, h1, h2, h3, h4⟩
      · refine .inl ⟨fun p e hp => ?_, h2⟩
        by_cases hpn : p = n
        · rw [hpn]; exact no e
        · exact h1 p e (by omega)
      · refine .inr ⟨p, e, by omega, h2, fun p' e' a c => ?_, h4⟩
        by_cases hpn : p' = n
        · rw [hpn]; exact no e'
        · exact h3 p' e' a (by omega)
theorem told_parsed (b : Array UInt8) (k : Nat) (hr : Reach (nats b) k) (hk : k = b.size ∨ b.getD k 0 = 10) : Parsed b (toldRun b k) := by
  have low : ∀ p e, Reach (nats b) p → Hit (nats b) p e → p < k := fun p e h1 h2 => by
    refine Nat.lt_of_not_le fun hle => ?_
    rcases hk with hk | hk
    · have := h2.le8
      rw [nats_size] at this
      omega
    · by_cases hpk : p = k
      · have := h2.flags.1.2
        rw [hpk, nats_getD, hk] at this
        exact absurd this (by decide)
      · refine h1 k (by omega) ?_
        rw [nats_getD, hk]; rfl
  have up : ∀ p, p < k → Reach (nats b) p := fun p hp j hj => hr j (by omega)
  rcases told_upto b k with ⟨h1, h2⟩ | ⟨p, e, h1, h2, h3, h4⟩
  · exact .inl ⟨fun p e hp he => h1 p e (low p e hp he) he, h2⟩
  · refine .inr ⟨p, e, up p h1, h2, fun p' e' a c he => h3 p' e' a (low p' e' c he) he, ?_⟩
    rw [h4, words_eq]
theorem Parsed.unique {b : Array UInt8} {ws ws' : List (Array UInt8)} (h : Parsed b ws) (h' : Parsed b ws') : ws = ws' := by
  rcases h with ⟨h1, rfl⟩ | ⟨p, e, h1, h2, h3, rfl⟩
  · rcases h' with ⟨_, rfl⟩ | ⟨p', e', a1, a2, _, _⟩
    · rfl
    · exact absurd a2 (h1 p' e' a1)
  · rcases h' with ⟨a1, _⟩ | ⟨p', e', a1, a2, a3, rfl⟩
    · exact absurd h2 (a1 p e h1)
    · have hp : p = p' := by
        rcases Nat.lt_trichotomy p p' with hl | hl | hl
        · exact absurd a2 (h3 p' e' hl a1)
        · exact hl
        · exact absurd h2 (a3 p e hl h1)
      subst hp
      have := ((hit_iff b p e).mp h2).2.2
      have := ((hit_iff b p e').mp a2).2.2
      have he : e = e' := by omega
      rw [he]
theorem rangeSize_down (n : Nat) : Builtin.Range.rangeSize ((n : Int) - 1) (-1) (-1) = (n : Int) := by
  unfold Builtin.Range.rangeSize
  rw [if_neg (by decide)]
  have e : (-(-1) : Int) = 1 := by decide
  rw [e, Int.ediv_one]
  split <;> omega
theorem small_down (n : Nat) (h : n ≤ 100000) : Builtin.Range.small ((n : Int) - 1) (-1) (-1) = true := by
  unfold Builtin.Range.small
  rw [rangeSize_down]
  simp only [Builtin.Range.rangeFitsLong, Bool.and_eq_true, Bool.or_eq_true, decide_eq_true_eq, beq_iff_eq]
  have h1 : ¬ ((-1 : Int) > 0) := by decide
  rw [if_neg h1]
  simp only [Bool.and_eq_true, decide_eq_true_eq]
  omega
abbrev shutInts (b : Array UInt8) (i : Nat) : List Int := (List.range (i + 1)).map fun d => (nextF b d : Int)
structure ShutJ (b : Array UInt8) (t : Tok) (k : Nat) (m : Str → Option Value) (nx : List (Addr × Obj)) : Prop where
  ex : ∃ (S : Addr) (us : List Value) (n : Nat), nx = [(S, PySem.W.listOf us.toArray n)] ∧ IntsAre us (shutInts b k) ∧ m (Str.ofString "shut") = some (.ref S) ∧ m (Str.ofString "row") = some (.bytes b t) ∧ us.length = k + 1
section
variable {g h' : Heap} {L I S : Addr} {oI : Obj} {m' : Str → Option Value} {led : List (Addr × Obj)} {b : Array UInt8} {t tk : Tok} {k n : Nat} {us : List Value} {s₁ : Shared} {tks : Nat}
theorem turn_shut {v : Int} (F : Fr g L h' m') (N : News g L h' led) (hS : (S, PySem.W.listOf (us.toArray.push (.int v tk)) n) ∈ led) (hI : (I, oI) ∈ led) (hu : IntsAre us (shutInts b k)) (hlu : us.length = k + 1)
    (hv : v = (nextF b (k + 1) : Int)) (e1 : m' (Str.ofString "shut") = some (.ref S)) (e3 : m' (Str.ofString "row") = some (.bytes b t)) :
    TurnEnd g L (fun m nx => ShutJ b t (k + 1) m nx) I oI s₁ { s₁ with heap := h', toks := tks } := by
  refine TurnEnd.intro [(S, _)] F N (fun p hp => List.mem_singleton.mp hp ▸ hS) hI ⟨⟨S, us ++ [.int v tk], n, by simp, ?_, e1, e3, by simp; omega⟩⟩
  have e : shutInts b (k + 1) = shutInts b k ++ [v] := by
    unfold shutInts
    rw [List.range_succ, List.map_append, hv]
    rfl
  rw [e]
  exact IntsAre.snoc hu _ _
end
section
variable {prog : Program} {w : World} {A : Around} {E : Value → Shared → Prop} {s : Shared} {h₀ : Heap} {L : Addr} {m : Str → Option Value} {news : List (Addr × Obj)}
theorem last_K {S : Addr} {us : List Value} {b : Array UInt8} {k n : Nat} {u : Tok} {value slice : Expr} {Q : Value → Shared → Prop} (N : News h₀ L s.heap news) (hS : (S, PySem.W.listOf us.toArray n) ∈ news) (hu : IntsAre us (shutInts b k)) (hz : k ≤ 100000)
    (h : ∀ t, Q (.int (nextF b k : Int) t) s)
    (hs : subscripted slice false (.ref S) (.int (-1) u) = operate [.ref S, .int (-1) u] (getItem (.ref S) (.int (-1) u)) := by with_unfolding_all rfl) :
    wpAny (model prog w) A (subscriptTail value slice (.ref S) (.int (-1) u)) Q E s := by
  have hl : s.heap.IsList S us.toArray := ⟨_, N.get hS, rfl, n, rfl⟩
  have hlen : us.length = k + 1 := by rw [hu.length]; simp
  obtain ⟨t, ht⟩ := hu.get k (nextF b k : Int) (by simp [shutInts])
  refine tail_any hl.typeIs slot_list_getitem.lookup ?_ hs
  refine wpAny_getItem_list_neg (x := .int (nextF b k : Int) t) hl (by decide) (by rw [List.size_toArray, hlen]; omega) (by decide) ?_ (h t)
  have e : (-1 + ((us.toArray.size : Nat) : Int)).toNat = k := by rw [List.size_toArray, hlen]; omega
  rw [e]
  simpa using ht
theorem shut_K {S : Addr} {us : List Value} {ns : List Int} {n : Nat} {i : Int} {u : Tok} {value slice : Expr} {Q : Value → Shared → Prop} (N : News h₀ L s.heap news) (hS : (S, PySem.W.listOf us.toArray n) ∈ news) (hu : IntsAre us ns) (h0 : 0 ≤ i) (h1 : i < (ns.length : Int)) (hz : i < 1000000)
    (h : ∀ t, Q (.int (ns.getD i.toNat 0) t) s)
    (hs : subscripted slice false (.ref S) (.int i u) = operate [.ref S, .int i u] (getItem (.ref S) (.int i u)) := by with_unfolding_all rfl) :
    wpAny (model prog w) A (subscriptTail value slice (.ref S) (.int i u)) Q E s := by
  have hl : s.heap.IsList S us.toArray := ⟨_, N.get hS, rfl, n, rfl⟩
  have hi : i.toNat < ns.length := by omega
  obtain ⟨t, ht⟩ := hu.get i.toNat ns[i.toNat] (by simp [hi])
  have e : ns.getD i.toNat 0 = ns[i.toNat] := by simp [hi]
  rw [e] at h
  exact tail_any hl.typeIs slot_list_getitem.lookup (wpAny_getItem_list hl h0 (by omega) (by simpa using ht) (h t)) hs
end
theorem shut_hit {b : Array UInt8} {k : Nat} (hk : k < b.size) (h : ((b.getD ((b.size : Int) - 1 + k * -1).toNat 0).toNat : Int) = 41) : (b.size : Int) - 1 + k * -1 = (nextF b (k + 1) : Int) := by
  have e : ((b.size : Int) - 1 + k * -1).toNat = b.size - (k + 1) := by omega
  rw [e] at h
  have h41 : b.getD (b.size - (k + 1)) 0 = 41 := by
    apply UInt8.toNat_inj.mp
    have : (41 : UInt8).toNat = 41 := rfl
    omega
  unfold nextF
  rw [if_pos h41]
  omega
theorem shut_miss {b : Array UInt8} {k : Nat} (hk : k < b.size) (h : ((b.getD ((b.size : Int) - 1 + k * -1).toNat 0).toNat : Int) ≠ 41) : (nextF b k : Int) = (nextF b (k + 1) : Int) := by
  have e : ((b.size : Int) - 1 + k * -1).toNat = b.size - (k + 1) := by omega
  rw [e] at h
  have h41 : b.getD (b.size - (k + 1)) 0 ≠ 41 := by
    intro x
    rw [x] at h
    exact h rfl
  conv => rhs; unfold nextF
  rw [if_neg h41]
end Mine

-- part RxS
namespace Mine
open PySem PySem.W PySem.Calls PyProof.Rows
theorem picked_cut {b : Array UInt8} {lo hi : Int} (h0 : 0 ≤ lo) (h1 : lo ≤ hi) : KBy.picked b (some lo) (some hi) = b.extract lo.toNat hi.toNat := by
  rw [KBc.picked_eq]
  apply Array.toList_inj.mp
  have e1 : clipAt b.size lo = min lo.toNat b.size := by
    have := clipAt_cast b.size lo
    rw [if_neg (by omega)] at this
    omega
  have e2 : clipAt b.size hi = min hi.toNat b.size := by
    have := clipAt_cast b.size hi
    rw [if_neg (by omega)] at this
    omega
  simp only [Option.elim, e1, e2, Array.toList_extract, List.extract_eq_take_drop]
  have hl : b.toList.length = b.size := Array.length_toList
  by_cases h : lo.toNat ≤ b.size
  · rw [Nat.min_eq_left h]
    by_cases h' : hi.toNat ≤ b.size
    · rw [Nat.min_eq_left h']
    · rw [Nat.min_eq_right (by omega), List.take_of_length_le (by rw [List.length_drop]; omega), List.take_of_length_le (by rw [List.length_drop]; omega)]
  · rw [Nat.min_eq_right (by omega), List.drop_eq_nil_of_le (by omega), List.drop_eq_nil_of_le (by omega)]
    simp
section
variable {prog : Program} {w : World} {A : Around} {E : Value → Shared → Prop} {s : Shared} {value slice : PySem.Expr} {b : Array UInt8} {t : Tok} {h₀ : Heap} {L : Addr} {m : PySem.Str → Option Value} {news : List (Addr × Obj)} {Q : Value → Shared → Prop}
theorem slice_B {l u : Value} {lo hi : Option Int} (hF : Fr h₀ L s.heap m) (hN : News h₀ L s.heap news) (hl : IsPart l lo) (hu : IsPart u hi) (hz : b.size ≤ 16777216)
    (h : ∀ h' t' k, Fr h₀ L h' m → News h₀ L h' news → Q (.bytes (KBy.picked b lo hi) t') { s with heap := h', toks := k })
    (hs : subscripted slice false (.bytes b t) (.ref s.heap.objs.size) = operate [.ref s.heap.objs.size, .bytes b t] (getItem (.bytes b t) (.ref s.heap.objs.size)) := by with_unfolding_all rfl)
    (ht : ∀ r, letTemporaryGo value (.bytes b t) r = pure () := by intro _; with_unfolding_all rfl) :
    wpAny (model prog w) A (subscriptTail value slice (.bytes b t) (.ref s.heap.objs.size)) Q E { s with heap := s.heap.push { cls := .type "slice", data := .fields #[l, u, .none] } } :=
  KBc.slice_K hF hN rfl hl hu (by rw [KBw.ints_length]; exact hz) (fun h' t' k F N _ => h h' t' k F N) hs ht
theorem slice_cut {lo hi : Int} {t1 t2 : Tok} (hF : Fr h₀ L s.heap m) (hN : News h₀ L s.heap news) (h0 : 0 ≤ lo) (h1 : lo ≤ hi) (hz : b.size ≤ 100000)
    (h : ∀ h' t' k, Fr h₀ L h' m → News h₀ L h' news → Q (.bytes (b.extract lo.toNat hi.toNat) t') { s with heap := h', toks := k })
    (hs : subscripted slice false (.bytes b t) (.ref s.heap.objs.size) = operate [.ref s.heap.objs.size, .bytes b t] (getItem (.bytes b t) (.ref s.heap.objs.size)) := by with_unfolding_all rfl)
    (ht : ∀ r, letTemporaryGo value (.bytes b t) r = pure () := by intro _; with_unfolding_all rfl) :
    wpAny (model prog w) A (subscriptTail value slice (.bytes b t) (.ref s.heap.objs.size)) Q E { s with heap := s.heap.push { cls := .type "slice", data := .fields #[.int lo t1, .int hi t2, .none] } } := by
  refine slice_B (lo := some lo) (hi := some hi) hF hN (by constructor) (by constructor) (by omega) (fun h' t' k F N => ?_) hs ht
  rw [picked_cut h0 h1]
  exact h h' t' k F N
end
theorem shut_last (b : Array UInt8) (k : Nat) : (shutInts b k).getD (-1 + ((shutInts b k).length : Int)).toNat 0 = (nextF b k : Int) := by
  have hl : (shutInts b k).length = k + 1 := by simp [shutInts]
  rw [hl]
  have e : (-1 + ((k + 1 : Nat) : Int)).toNat = k := by omega
  rw [e]
  simp [shutInts]
theorem shut_miss' {b : Array UInt8} {k : Nat} (hk : k < b.size) (h : ((b.getD ((b.size : Int) - 1 + k * -1).toNat 0).toNat : Int) ≠ 41) : (shutInts b k).getD (-1 + ((shutInts b k).length : Int)).toNat 0 = (nextF b (k + 1) : Int) :=
  (shut_last b k).trans (shut_miss hk h)
theorem IntsAre.rev {us : List Value} {ns : List Int} (h : IntsAre us ns) : IntsAre us.reverse ns.reverse := by
  induction h with
  | nil => exact .nil
  | cons n t _ ih => simp only [List.reverse_cons]; exact IntsAre.snoc ih _ _
theorem shut_rev (b : Array UInt8) (i : Nat) (h : i ≤ b.size) : (shutInts b b.size).reverse.getD i 0 = (nextShut b i : Int) := by
  have hl : (shutInts b b.size).length = b.size + 1 := by simp [shutInts]
  rw [List.getD_eq_getElem?_getD, List.getElem?_reverse (by omega), hl]
  simp only [shutInts, List.getElem?_map]
  rw [List.getElem?_range (by omega)]
  simp only [Option.map_some, Option.getD_some]
  have e : b.size + 1 - 1 - i = b.size - i := by omega
  rw [e]
structure ToldJ (b : Array UInt8) (t : Tok) (k : Nat) (m : Str → Option Value) (nx : List (Addr × Obj)) : Prop where
  ex : ∃ (T S : Addr) (vs us : List Value) (n1 n2 : Nat), nx = [(T, PySem.W.listOf vs.toArray n1), (S, PySem.W.listOf us.toArray n2)] ∧ T ≠ S ∧ BytesAre vs (toldRun b k) ∧ IntsAre us (shutInts b b.size).reverse ∧
    m (Str.ofString "told") = some (.ref T) ∧ m (Str.ofString "shut") = some (.ref S) ∧ m (Str.ofString "row") = some (.bytes b t) ∧ Reach (nats b) k ∧ vs.length ≤ 200000
theorem TurnPost.brk {h₀ : Heap} {L I : Addr} {oI : Obj} {J : (Str → Option Value) → List (Addr × Obj) → Prop} {s₁ s₂ : Shared} {Q : Flow → Shared → Prop} (h : Q .next s₂) : TurnPost h₀ L J I oI s₁ Q .brk s₂ := h
theorem TurnPost.next {h₀ : Heap} {L I : Addr} {oI : Obj} {J : (Str → Option Value) → List (Addr × Obj) → Prop} {s₁ s₂ : Shared} {Q : Flow → Shared → Prop} (h : TurnEnd h₀ L J I oI s₁ s₂) : TurnPost h₀ L J I oI s₁ Q .next s₂ := h
theorem back_keep {h₀ sH g h' : Heap} {L L' : Addr} {m' : Str → Option Value} {news : List (Addr × Obj)} (N : News h₀ L sH news) (G : GSub sH g (List.map (fun x => x.1) ([] : List (Addr × Obj)))) (F' : Fr g L' h' m') : News h₀ L h' news := fun p hp =>
  ⟨F'.keep _ _ (G _ _ (N p hp).1 (by simp)), (N p hp).2⟩
theorem at_ten {b : Array UInt8} {k : Nat} (h : ((b.getD (0 + (k : Int) * 1).toNat 0).toNat : Int) = 10) : b.getD k 0 = 10 := by
  have e1 : (0 + (k : Int) * 1).toNat = k := by omega
  rw [e1] at h
  apply UInt8.toNat_inj.mp
  have : (10 : UInt8).toNat = 10 := rfl
  omega
theorem at_flags {b : Array UInt8} {k : Nat} (h : ((b.extract (0 + (k : Int) * 1).toNat (0 + (k : Int) * 1 + 7).toNat).toList == #[70, 76, 65, 71, 83, 32, 40].toList) = true) : b.extract k (k + 7) = flagsArr := by
  have e1 : (0 + (k : Int) * 1).toNat = k := by omega
  have e2 : (0 + (k : Int) * 1 + 7).toNat = k + 7 := by omega
  rw [e1, e2] at h
  exact Array.toList_inj.mp (eq_of_beq h)
theorem not_flags {b : Array UInt8} {k : Nat} (h : ((b.extract (0 + (k : Int) * 1).toNat (0 + (k : Int) * 1 + 7).toNat).toList == #[70, 76, 65, 71, 83, 32, 40].toList) = false) : ¬ b.extract k (k + 7) = flagsArr := by
  have e1 : (0 + (k : Int) * 1).toNat = k := by omega
  have e2 : (0 + (k : Int) * 1 + 7).toNat = k + 7 := by omega
  rw [e1, e2] at h
  intro x
  rw [x] at h
  exact absurd h (by decide)
theorem not_seventy {b : Array UInt8} {k : Nat} (h : ((b.getD (0 + (k : Int) * 1).toNat 0).toNat : Int) ≠ 70) : ¬ b.extract k (k + 7) = flagsArr := by
  have e1 : (0 + (k : Int) * 1).toNat = k := by omega
  rw [e1] at h
  intro x
  have := ((flags_iff b k).mpr x).1.2
  rw [nats_getD] at this
  omega
theorem flags_room {b : Array UInt8} {k : Nat} (h : ((b.extract (0 + (k : Int) * 1).toNat (0 + (k : Int) * 1 + 7).toNat).toList == #[70, 76, 65, 71, 83, 32, 40].toList) = true) : 0 + (k : Int) * 1 + 7 ≤ (b.size : Int) := by
  have := ((flags_iff b k).mpr (at_flags h)).le
  rw [nats_size] at this
  omega
theorem reach_more {b : Array UInt8} {k : Nat} (hr : Reach (nats b) k) (h : ((b.getD (0 + (k : Int) * 1).toNat 0).toNat : Int) ≠ 10) : Reach (nats b) (k + 1) := by
  have e1 : (0 + (k : Int) * 1).toNat = k := by omega
  rw [e1] at h
  intro j hj
  by_cases e : j = k
  · rw [e, nats_getD]; omega
  · exact hr j (by omega)
section
variable {prog : Program} {w : World} {A : Around} {E : Value → Shared → Prop} {s : Shared} {h₀ : Heap} {L : Addr} {news : List (Addr × Obj)} {b : Array UInt8}
theorem shut_R {S : Addr} {us : List Value} {n : Nat} {i : Int} {u : Tok} {value slice : Expr} {Q : Value → Shared → Prop} (N : News h₀ L s.heap news) (hS : (S, PySem.W.listOf us.toArray n) ∈ news) (hu : IntsAre us (shutInts b b.size).reverse) (h0 : 0 ≤ i) (h1 : i ≤ (b.size : Int)) (hz : b.size ≤ 100000)
    (h : ∀ t, i ≤ (nextShut b i.toNat : Int) → (nextShut b i.toNat : Int) ≤ (b.size : Int) → Q (.int (nextShut b i.toNat : Int) t) s)
    (hs : subscripted slice false (.ref S) (.int i u) = operate [.ref S, .int i u] (getItem (.ref S) (.int i u)) := by with_unfolding_all rfl) :
    wpAny (model prog w) A (subscriptTail value slice (.ref S) (.int i u)) Q E s := by
  have hl : ((shutInts b b.size).reverse.length : Int) = b.size + 1 := by simp [shutInts]
  refine shut_K N hS hu h0 (by omega) (by omega) (fun t => ?_) hs
  rw [shut_rev b _ (by omega)]
  obtain ⟨h2, h3, _⟩ := nextF_spec b (b.size - i.toNat) (by omega)
  have h2 : b.size - (b.size - i.toNat) ≤ nextShut b i.toNat := h2
  have h3 : nextShut b i.toNat ≤ b.size := h3
  exact h t (by omega) (by omega)
end
section
variable {g h' : Heap} {L I S T : Addr} {oI : Obj} {m' : Str → Option Value} {led : List (Addr × Obj)} {b : Array UInt8} {t : Tok} {k n1 n2 : Nat} {us vs : List Value} {s₁ : Shared} {tks : Nat}
theorem turn_told {ws : List (Array UInt8)} (hk : k < b.size) (F : Fr g L h' m') (N : News g L h' led) (hT : (T, PySem.W.listOf vs.toArray n1) ∈ led) (hS : (S, PySem.W.listOf us.toArray n2) ∈ led) (hI : (I, oI) ∈ led)
    (hTS : T ≠ S) (hv : BytesAre vs ws) (hw : ws = toldRun b (k + 1)) (hu : IntsAre us (shutInts b b.size).reverse) (hrc : Reach (nats b) k) (h10 : ((b.getD (0 + (k : Int) * 1).toNat 0).toNat : Int) ≠ 10) (hlv : vs.length ≤ 200000)
    (e1 : m' (Str.ofString "told") = some (.ref T)) (e2 : m' (Str.ofString "shut") = some (.ref S)) (e3 : m' (Str.ofString "row") = some (.bytes b t)) :
    TurnEnd g L (fun m nx => ToldJ b t (k + 1) m nx) I oI s₁ { s₁ with heap := h', toks := tks } :=
  TurnEnd.intro _ F N (two_in hT hS) hI ⟨⟨T, S, vs, us, n1, n2, rfl, hTS, hw ▸ hv, hu, e1, e2, e3, reach_more hrc h10, hlv⟩⟩
end
theorem told_keep {b : Array UInt8} {k : Nat} (h : ¬ (b.extract k (k + 7) = flagsArr ∧ nextShut b (k + 7) < b.size)) : toldRun b k = toldRun b (k + 1) := by
  conv => rhs; unfold toldRun
  rw [if_neg h]
theorem told_keep70 {b : Array UInt8} {k : Nat} (h : ((b.getD (0 + (k : Int) * 1).toNat 0).toNat : Int) ≠ 70) : toldRun b k = toldRun b (k + 1) := told_keep fun x => not_seventy h x.1
theorem told_keepF {b : Array UInt8} {k : Nat} (h : ((b.extract (0 + (k : Int) * 1).toNat (0 + (k : Int) * 1 + 7).toNat).toList == #[70, 76, 65, 71, 83, 32, 40].toList) = false) : toldRun b k = toldRun b (k + 1) := told_keep fun x => not_flags h x.1
theorem told_keepS {b : Array UInt8} {k : Nat} (h : ¬ (nextShut b (0 + (k : Int) * 1 + 7).toNat : Int) < (b.size : Int)) : toldRun b k = toldRun b (k + 1) := told_keep fun x => by
  have e2 : (0 + (k : Int) * 1 + 7).toNat = k + 7 := by omega
  rw [e2] at h
  have := x.2
  omega
theorem told_new {b : Array UInt8} {k : Nat} (hf : ((b.extract (0 + (k : Int) * 1).toNat (0 + (k : Int) * 1 + 7).toNat).toList == #[70, 76, 65, 71, 83, 32, 40].toList) = true) (h : (nextShut b (0 + (k : Int) * 1 + 7).toNat : Int) < (b.size : Int)) :
    wFin (wRun b (0 + (k : Int) * 1 + 7).toNat ((nextShut b (0 + (k : Int) * 1 + 7).toNat : Nat) : Int).toNat) = toldRun b (k + 1) := by
  have e2 : (0 + (k : Int) * 1 + 7).toNat = k + 7 := by omega
  rw [e2, Int.toNat_natCast]
  rw [e2] at h
  conv => rhs; unfold toldRun
  rw [if_pos ⟨at_flags hf, by omega⟩]
end Mine

-- part RxT
namespace Mine
open PySem PySem.W PySem.Calls PyProof.Rows Builtin
theorem BytesAre.drop {vs : List Value} {bs : List (Array UInt8)} (h : BytesAre vs bs) : ∀ n, BytesAre (vs.drop n) (bs.drop n) := by
  induction h with
  | nil => intro n; simp; exact .nil
  | cons t h ih =>
    intro n
    cases n with
    | zero => exact .cons t h
    | succ n => exact ih n
theorem BytesAre.take {vs : List Value} {bs : List (Array UInt8)} (h : BytesAre vs bs) : ∀ n, BytesAre (vs.take n) (bs.take n) := by
  induction h with
  | nil => intro n; simp; exact .nil
  | cons t h ih =>
    intro n
    cases n with
    | zero => exact .nil
    | succ n => exact .cons t (ih n)
theorem BytesAre.app {vs us : List Value} {bs cs : List (Array UInt8)} (h : BytesAre vs bs) (h' : BytesAre us cs) : BytesAre (vs ++ us) (bs ++ cs) := by
  induction h with
  | nil => exact h'
  | cons t _ ih => exact .cons t ih
theorem BytesAre.rev {vs : List Value} {bs : List (Array UInt8)} (h : BytesAre vs bs) : BytesAre vs.reverse bs.reverse := by
  induction h with
  | nil => exact .nil
  | cons t _ ih => simp only [List.reverse_cons]; exact BytesAre.snoc ih _ _
def pickB (bs : List (Array UInt8)) (lo hi : Option Int) : List (Array UInt8) := (bs.drop (kms_lo lo bs.length)).take (kms_hi hi bs.length - kms_lo lo bs.length)
theorem pickB_len (bs : List (Array UInt8)) (lo hi : Option Int) : (pickB bs lo hi).length ≤ bs.length := by
  unfold pickB
  rw [List.length_take, List.length_drop]
  omega
theorem pickB_in {bs : List (Array UInt8)} {lo hi : Option Int} {c : Array UInt8} (h : c ∈ pickB bs lo hi) : c ∈ bs := List.mem_of_mem_drop (List.mem_of_mem_take h)
theorem joined_more (sep : Array UInt8) : ∀ (r : List (Array UInt8)) (i : Nat) (a : Array UInt8), (r.zipIdx (i + 1)).foldl (fun out (x : Array UInt8 × Nat) => (if x.2 > 0 then out ++ sep else out) ++ x.1) a = r.foldl (fun out part => out ++ sep ++ part) a
  | [], _, _ => rfl
  | c :: r, i, a => by
    rw [List.zipIdx_cons, List.foldl_cons, List.foldl_cons, joined_more sep r (i + 1)]
    simp
theorem joined_cons (sep c : Array UInt8) (r : List (Array UInt8)) : Bytes.joined sep (c :: r) = r.foldl (fun out part => out ++ sep ++ part) c := by
  have e : Bytes.joined sep (c :: r) = (r.zipIdx (0 + 1)).foldl (fun out (x : Array UInt8 × Nat) => (if x.2 > 0 then out ++ sep else out) ++ x.1) ((if (0 : Nat) > 0 then #[] ++ sep else #[]) ++ c) := rfl
  rw [e, joined_more]
  simp
theorem joined_le (sep : Array UInt8) (n : Nat) : ∀ (bs : List (Array UInt8)), (∀ c ∈ bs, c.size ≤ n) → (Bytes.joined sep bs).size ≤ bs.length * (n + sep.size) := by
  intro bs hc
  have key : ∀ (bs : List (Array UInt8)) (a : Array UInt8), (∀ c ∈ bs, c.size ≤ n) → (bs.foldl (fun out part => out ++ sep ++ part) a).size ≤ a.size + bs.length * (n + sep.size) := by
    intro bs
    induction bs with
    | nil => intro a _; simp
    | cons c r ih =>
      intro a h
      have h1 := ih (a ++ sep ++ c) fun x hx => h x (List.mem_cons_of_mem _ hx)
      have h2 := h c (List.mem_cons_self ..)
      simp only [Array.size_append] at h1
      rw [List.foldl_cons, List.length_cons, Nat.succ_mul]
      omega
  cases bs with
  | nil => simp [Bytes.joined]
  | cons c r =>
    have h1 := key r c fun x hx => hc x (List.mem_cons_of_mem _ hx)
    have h2 := hc c (List.mem_cons_self ..)
    rw [List.length_cons, Nat.succ_mul]
    rw [joined_cons]
    omega
theorem fold_le (n : Nat) : ∀ (bs : List (Array UInt8)) (a : Nat), (∀ c ∈ bs, c.size ≤ n) → bs.foldl (fun a b => a + b.size) a ≤ a + bs.length * n
  | [], a, _ => by simp
  | c :: r, a, h => by
    have h1 := fold_le n r (a + c.size) fun x hx => h x (List.mem_cons_of_mem _ hx)
    have h2 := h c (List.mem_cons_self ..)
    rw [List.foldl_cons, List.length_cons, Nat.succ_mul]
    omega
section
variable {prog : Program} {w : World} {A : Around} {E : Value → Shared → Prop} {s : Shared} {h₀ : Heap} {L l : Addr} {m : Str → Option Value} {news : List (Addr × Obj)} {value slice : PySem.Expr} {vs : List Value} {bs : List (Array UInt8)} {vl vu : Value} {lo hi : Option Int} {n : Nat} {Q : Value → Shared → Prop}
theorem slice_L (F : Fr h₀ L s.heap m) (N : News h₀ L s.heap news) (hl : (l, PySem.W.listOf vs.toArray n) ∈ news) (hb : BytesAre vs bs) (pl : IsPart vl lo) (pu : IsPart vu hi) (hz : vs.length ≤ 1000000)
    (h : ∀ D ws h', Fr h₀ L h' m → News h₀ L h' ((D, PySem.W.listOf (List.toArray ws) 0) :: news) → (∀ p ∈ news, p.1 < D) → BytesAre ws (pickB bs lo hi) → Q (.ref D) { s with heap := h' })
    (hs : subscripted slice false (.ref l) (.ref s.heap.objs.size) = operate [.ref s.heap.objs.size, .ref l] (getItem (.ref l) (.ref s.heap.objs.size))) (ht : ∀ r, letTemporaryGo value (.ref l) r = pure ()) :
    wpAny (model prog w) A (subscriptTail value slice (.ref l) (.ref s.heap.objs.size)) Q E { s with heap := s.heap.push { cls := .type "slice", data := .fields #[vl, vu, .none] } } := by
  refine kms_slice_lit (its := vs.toArray) (zs := kms_pick vs lo hi) F N ⟨_, N.get hl, rfl, n, rfl⟩ pl pu rfl (fun D h' F' N' l1 => h D _ h' F' N' l1 ?_) hs ht (by rw [sizeLine_eq, List.size_toArray]; omega)
  unfold kms_pick pickB
  rw [hb.length]
  exact BytesAre.take (BytesAre.drop hb _) _
theorem rev_L {vk : Value} {ops : List Value} (F : Fr h₀ L s.heap m) (N : News h₀ L s.heap news) (hl : (l, PySem.W.listOf vs.toArray n) ∈ news) (hb : BytesAre vs bs) (pk : IsPart vk (some (-1))) (hz : vs.length ≤ 1000000)
    (h : ∀ D ws h', Fr h₀ L h' m → News h₀ L h' ((D, PySem.W.listOf (List.toArray ws) 0) :: news) → (∀ p ∈ news, p.1 < D) → BytesAre ws bs.reverse → Q (.ref D) { s with heap := h' })
    (hs : subscripted slice false (.ref l) (.ref s.heap.objs.size) = operate ops (getItem (.ref l) (.ref s.heap.objs.size))) (ht : ∀ r, letTemporaryGo value (.ref l) r = pure ()) :
    wpAny (model prog w) A (subscriptTail value slice (.ref l) (.ref s.heap.objs.size)) Q E { s with heap := s.heap.push { cls := .type "slice", data := .fields #[.none, .none, vk] } } :=
  krv_lit (its := vs.toArray) (zs := vs.reverse) F N ⟨_, N.get hl, rfl, n, rfl⟩ pk rfl (fun D h' F' N' l1 => h D vs.reverse h' F' N' l1 hb.rev) hs ht (by rw [sizeLine_eq, List.size_toArray]; omega)
theorem join_small {t : Tok} (N : News h₀ L s.heap news) (hl : (l, PySem.W.listOf vs.toArray n) ∈ news) (hv : BytesAre vs bs) (hz : bs.length ≤ 20) (hc : ∀ c ∈ bs, c.size ≤ 30)
    (h : ∀ c t' k, c.size ≤ 10000 → Q (.bytes c t') { s with toks := k }) :
    wpAny (model prog w) A (call (.builtin "bytes.join") [.bytes #[] t, .ref l]) Q E s := by
  have h1 := joined_le #[] 30 bs hc
  have h2 := fold_le 30 bs 0 hc
  refine call_join (N.get hl) (.inl rfl) rfl hv ?_ ?_ fun t' k => h _ t' k ?_
  · simp only [List.size_toArray, List.length_nil, Nat.zero_mul]; omega
  · simp only [List.size_toArray, List.length_nil, Nat.add_zero] at h1; omega
  · simp only [List.size_toArray, List.length_nil, Nat.add_zero] at h1; omega
theorem len_L (N : News h₀ L s.heap news) (hl : (l, PySem.W.listOf vs.toArray n) ∈ news) (hz : vs.length ≤ 1000000) (h : ∀ t k, Q (.int (vs.length : Int) t) { s with toks := k }) : wpAny (model prog w) A (call (.builtin "len") [.ref l]) Q E s := by
  refine call_len_list (items := vs.toArray) ⟨_, N.get hl, rfl, n, rfl⟩ (by rw [List.size_toArray]; omega) ?_
  have := h (s.toks + 1) (s.toks + 1 + 1)
  simpa using this
theorem ne_parsed {r₁ r₂ : Addr} {vs₁ vs₂ : List Value} {ws₁ ws₂ : List (Array UInt8)} {b : Array UInt8} (N : News h₀ L s.heap news) (h1 : (r₁, mkTup vs₁) ∈ news) (h2 : (r₂, mkTup vs₂) ∈ news) (b1 : BytesAre vs₁ ws₁) (b2 : BytesAre vs₂ ws₂) (p1 : Parsed b ws₁) (p2 : Parsed b ws₂) (hu : A.units < cLine)
    (h : Q (.bool false) s) : wpAny (model prog w) A (compareOp .NotEq (.ref r₁) (.ref r₂)) Q E s := by
  refine ne_tuples (vs := vs₁) (us := vs₂) ⟨_, N.get h1, rfl, 0, rfl⟩ ⟨_, N.get h2, rfl, 0, rfl⟩ b1 b2 hu ?_
  rw [Parsed.unique p1 p2]
  simpa using h
end
theorem ints_at {us : List Value} {ns : List Int} (h : IntsAre us ns) {i : Nat} {v : Value} (hv : us[i]? = some v) : ∃ n t, v = .int n t := by
  induction h generalizing i with
  | nil => simp at hv
  | cons n t _ ih =>
    cases i with
    | zero => simp at hv; exact ⟨_, _, hv.symm⟩
    | succ i => simp at hv; exact ih hv
section
variable {prog : Program} {w : World} {A : Around} {E : Value → Shared → Prop} {s : Shared} {env : Env} {h₀ : Heap} {x : Str} {body : List Stmt} {Q : Flow → Shared → Prop}
theorem list_loopJ {l : Addr} {vs : List Value} {nn : Nat} {m₀ : Str → Option Value} {news : List (Addr × Obj)} (J : Addr → List Value → Nat → (Str → Option Value) → List (Addr × Obj) → Prop) (nx₀ : List (Addr × Obj))
    (hh : A.handled = none) (hl : (l, PySem.W.listOf vs.toArray nn) ∈ news) (F : Fr h₀ env.locals s.heap m₀) (N : News h₀ env.locals s.heap news) (hn : ∀ p ∈ nx₀, p ∈ news) (hj : J l vs 0 m₀ nx₀)
    (hcls : ∀ i m nx, J l vs i m nx → ∀ p ∈ nx, p.2.cls ≠ .type "list_iterator") (hls : ∀ i m nx, J l vs i m nx → (l, PySem.W.listOf vs.toArray nn) ∈ nx)
    (turn : ∀ i v m₁ nx h tk I oI, vs[i]? = some v → J l vs i m₁ nx → (∀ p ∈ nx, p.1 ≠ I) → Fr h₀ env.locals h (fun y => if y = x then some v else m₁ y) → News h₀ env.locals h (nx ++ [(I, oI)]) →
      wpAny (model prog w) A (execs body env) (TurnPost h₀ env.locals (J l vs (i + 1)) I oI { s with heap := h, toks := tk } Q) E { s with heap := h, toks := tk })
    (done : ∀ m₁ nx h tk, J l vs vs.length m₁ nx → Fr h₀ env.locals h m₁ → News h₀ env.locals h nx → Q .next { s with heap := h, toks := tk }) :
    wpAny (model prog w) A (pyIter (.ref l)) (fun it s₂ => LoopAtV prog w A h₀ env x body Q E it s₂) E s :=
  list_loop (J l vs) nx₀ hh hl F N hn hj hcls hls turn done
end
theorem one_in {α : Type} {x : α} {l : List α} (hx : x ∈ l) : ∀ p ∈ [x], p ∈ l := fun p hp => by
  rw [List.mem_singleton.mp hp]; exact hx
theorem snoc_small {bs : List (Array UInt8)} {c : Array UInt8} {n : Nat} (h : ∀ x ∈ bs, x.size ≤ n) (hc : c.size ≤ n) : ∀ x ∈ bs ++ [c], x.size ≤ n := by
  intro x hx
  rcases List.mem_append.mp hx with hx | hx
  · exact h x hx
  · rw [List.mem_singleton.mp hx]; exact hc
structure PiecesJ (D : Addr) (ws : List Value) (k : Nat) (m : Str → Option Value) (nx : List (Addr × Obj)) : Prop where
  ex : ∃ (P : Addr) (vs : List Value) (bs : List (Array UInt8)) (n : Nat), nx = [(P, PySem.W.listOf vs.toArray n), (D, PySem.W.listOf ws.toArray 0)] ∧ P ≠ D ∧ BytesAre vs bs ∧ vs.length = k + 1 ∧ (∀ c ∈ bs, c.size ≤ 30) ∧
    m (Str.ofString "pieces") = some (.ref P)
structure RowsJ (P : Addr) (vs : List Value) (n : Nat) (k : Nat) (m : Str → Option Value) (nx : List (Addr × Obj)) : Prop where
  ex : nx = [(P, PySem.W.listOf vs.toArray n)] ∧ m (Str.ofString "pieces") = some (.ref P)
section
variable {g h' : Heap} {L I P D : Addr} {oI : Obj} {m' : Str → Option Value} {led : List (Addr × Obj)} {k n : Nat} {ws vs : List Value} {bs : List (Array UInt8)} {c : Array UInt8} {t : Tok} {s₁ : Shared} {tks : Nat}
theorem turn_piece (F : Fr g L h' m') (N : News g L h' led) (hP : (P, PySem.W.listOf (vs.toArray.push (.bytes c t)) n) ∈ led) (hD : (D, PySem.W.listOf ws.toArray 0) ∈ led) (hI : (I, oI) ∈ led) (hPD : P ≠ D) (hv : BytesAre vs bs) (hl : vs.length = k + 1) (hc : ∀ c ∈ bs, c.size ≤ 30) (hz : c.size ≤ 8)
    (e : m' (Str.ofString "pieces") = some (.ref P)) : TurnEnd g L (fun m nx => PiecesJ D ws (k + 1) m nx) I oI s₁ { s₁ with heap := h', toks := tks } := by
  refine TurnEnd.intro _ F N (two_in hP hD) hI ⟨⟨P, vs ++ [.bytes c t], bs ++ [c], n, by simp, hPD, BytesAre.snoc hv _ _, by simp; omega, ?_, e⟩⟩
  intro x hx
  rcases List.mem_append.mp hx with hx | hx
  · exact hc x hx
  · rw [List.mem_singleton.mp hx]; omega
theorem turn_row (F : Fr g L h' m') (N : News g L h' led) (hP : (P, PySem.W.listOf vs.toArray n) ∈ led) (hI : (I, oI) ∈ led)
    (e : m' (Str.ofString "pieces") = some (.ref P)) : TurnEnd g L (fun m nx => RowsJ P vs n (k + 1) m nx) I oI s₁ { s₁ with heap := h', toks := tks } :=
  TurnEnd.intro [(P, _)] F N (fun p hp => List.mem_singleton.mp hp ▸ hP) hI ⟨⟨rfl, e⟩⟩
end
end Mine

-- part RxW
namespace Mine
open PySem PySem.W PySem.Calls PyProof.Rows Builtin
abbrev flagsF : List UInt8 := [70, 76, 65, 71, 83, 32, 40]
abbrev flags5 : List UInt8 := [70, 76, 65, 71, 83]
def joinS : List (List UInt8) → List UInt8
  | [] => []
  | t :: ts => t ++ ts.flatMap fun w => 32 :: w
theorem joinS_two (t t' : List UInt8) (ts : List (List UInt8)) : joinS (t :: t' :: ts) = t ++ 32 :: joinS (t' :: ts) := by
  simp [joinS]
def noF : List UInt8 → Prop
  | [] => True
  | c :: l => ¬ flagsF <+: (c :: l) ∧ noF l
theorem noF_drop : ∀ (l : List UInt8) (n : Nat), noF l → ¬ flagsF <+: l.drop n
  | [], n, _ => by simp
  | c :: l, 0, h => h.1
  | c :: l, n + 1, h => noF_drop l n h.2
theorem noF_last {Y : List UInt8} (hZ : noF (41 :: Y)) : ∀ (t : List UInt8), 32 ∉ t → noF (t ++ 41 :: Y)
  | [], _ => hZ
  | c :: t, h => by
    refine ⟨fun hp => ?_, noF_last hZ t fun x => h (List.mem_cons_of_mem _ x)⟩
    replace hp : flagsF <+: c :: (t ++ 41 :: Y) := hp
    rcases t with _ | ⟨c1, _ | ⟨c2, _ | ⟨c3, _ | ⟨c4, _ | ⟨c5, t⟩⟩⟩⟩⟩ <;>
      simp only [flagsF, List.cons_append, List.nil_append, List.cons_prefix_cons, List.mem_cons, not_or] at hp h
    · exact absurd hp.2.1 (by decide)
    · exact absurd hp.2.2.1 (by decide)
    · exact absurd hp.2.2.2.1 (by decide)
    · exact absurd hp.2.2.2.2.1 (by decide)
    · exact absurd hp.2.2.2.2.2.1 (by decide)
    · exact h.2.2.2.2.2.1 hp.2.2.2.2.2.1
theorem noF_tok {rest : List UInt8} (hr : noF rest) : ∀ (t : List UInt8), 32 ∉ t → ¬ (flags5 <:+ t ∧ [40] <+: rest) → noF (t ++ 32 :: rest)
  | [], _, _ => ⟨fun hp => by simp only [flagsF, List.nil_append, List.cons_prefix_cons] at hp; exact absurd hp.1 (by decide), hr⟩
  | c :: t, h, h3 => by
    refine ⟨fun hp => ?_, noF_tok hr t (fun x => h (List.mem_cons_of_mem _ x)) fun x => h3 ⟨x.1.trans (List.suffix_cons ..), x.2⟩⟩
    replace hp : flagsF <+: c :: (t ++ 32 :: rest) := hp
    rcases t with _ | ⟨c1, _ | ⟨c2, _ | ⟨c3, _ | ⟨c4, _ | ⟨c5, t⟩⟩⟩⟩⟩ <;>
      simp only [flagsF, List.cons_append, List.nil_append, List.cons_prefix_cons, List.mem_cons, not_or] at hp h
    · exact absurd hp.2.1 (by decide)
    · exact absurd hp.2.2.1 (by decide)
    · exact absurd hp.2.2.2.1 (by decide)
    · exact absurd hp.2.2.2.2.1 (by decide)
    · obtain ⟨rfl, rfl, rfl, rfl, rfl, _, hp⟩ := hp
      exact h3 ⟨List.suffix_refl _, hp⟩
    · exact h.2.2.2.2.2.1 hp.2.2.2.2.2.1
def prL (a b : List UInt8) : Prop := flags5 <:+ a ∧ [40] <+: b
def noPairL : List (List UInt8) → Prop
  | a :: b :: r => ¬ prL a b ∧ noPairL (b :: r)
  | _ => True
theorem noF_join {Y : List UInt8} (hZ : noF (41 :: Y)) : ∀ (cs : List (List UInt8)) (c : List UInt8), 32 ∉ c → (∀ x ∈ cs, x ≠ [] ∧ 32 ∉ x) → noPairL (c :: cs) → noF (joinS (c :: cs) ++ 41 :: Y)
  | [], c, h, _, _ => by simp only [joinS, List.flatMap_nil, List.append_nil]; exact noF_last hZ c h
  | c' :: cs, c, h, hc, hp => by
    rw [joinS_two, List.append_assoc, List.cons_append]
    have h' := hc c' (List.mem_cons_self ..)
    refine noF_tok (noF_join hZ cs c' h'.2 (fun x hx => hc x (List.mem_cons_of_mem _ hx)) hp.2) c h fun x => hp.1 ⟨x.1, ?_⟩
    obtain ⟨y, ys, rfl⟩ := List.exists_cons_of_ne_nil h'.1
    have := x.2
    simp only [joinS, List.cons_append, List.cons_prefix_cons] at this ⊢
    exact ⟨this.1, List.nil_prefix⟩
theorem getD_toList (b : Array UInt8) (j : Nat) : b.getD j 0 = b.toList.getD j 0 := by simp
theorem getD_app_right (X Y : List UInt8) (j : Nat) : (X ++ Y).getD (X.length + j) 0 = Y.getD j 0 := by
  rw [List.getD_eq_getElem?_getD, List.getElem?_append_right (by omega), List.getD_eq_getElem?_getD, show X.length + j - X.length = j by omega]
theorem parsed_at {b : Array UInt8} {X C Y : List UInt8} (hb : b.toList = X ++ (flagsF ++ (C ++ 41 :: Y))) (h10 : ∀ c ∈ b.toList, c ≠ 10) (h41 : 41 ∉ C) (hn : noF ([76, 65, 71, 83, 32, 40] ++ (C ++ 41 :: Y))) :
    Parsed b (wFin (C.foldl wStep ([], []))) := by
  have hsz : b.size = X.length + 7 + C.length + 1 + Y.length := by
    rw [← Array.length_toList, hb]
    simp
    omega
  have hr : ∀ p, Reach (nats b) p := by
    intro p j _
    rw [nats_getD, getD_toList]
    intro e
    by_cases hj : j < b.toList.length
    · have h1 := h10 b.toList[j] (List.getElem_mem _)
      rw [List.getD_eq_getElem?_getD, List.getElem?_eq_getElem hj] at e
      exact h1 (UInt8.toNat_inj.mp e)
    · rw [List.getD_eq_getElem?_getD, List.getElem?_eq_none (by omega)] at e
      exact absurd e (by decide)
  have hdrop : b.toList.drop X.length = flagsF ++ (C ++ 41 :: Y) := by rw [hb, List.drop_left]
  have hfl : ∀ p, FlagsAt (nats b) p ↔ (b.toList.drop p).take 7 = flagsF := by
    intro p
    rw [flags_iff]
    have e2 : (b.extract p (p + 7)).toList = (b.toList.drop p).take 7 := by simp
    constructor
    · intro h
      rw [← e2, h]
      rfl
    · intro h
      exact Array.toList_inj.mp (e2.trans h)
  have hat : ∀ j, b.getD (X.length + 7 + j) 0 = (C ++ 41 :: Y).getD j 0 := by
    intro j
    rw [getD_toList, hb, Nat.add_assoc, getD_app_right]
    exact getD_app_right flagsF _ j
  refine .inr ⟨X.length, X.length + 7 + C.length, hr _, ⟨(hfl _).mpr (by rw [hdrop]; rfl), by omega, by rw [nats_size]; omega, ?_, fun j h1 h2 => ?_⟩, fun p' e' h1 _ h2 => ?_, ?_⟩
  · rw [nats_getD, hat]
    simp
  · obtain ⟨i, rfl⟩ : ∃ i, j = X.length + 7 + i := ⟨j - (X.length + 7), by omega⟩
    have hi : i < C.length := by omega
    rw [nats_getD, hat]
    intro e
    have e3 : (C ++ 41 :: Y).getD i 0 = C[i] := by
      rw [List.getD_eq_getElem?_getD, List.getElem?_append_left hi, List.getElem?_eq_getElem hi]
      rfl
    rw [e3] at e
    have : C[i] = 41 := UInt8.toNat_inj.mp e
    exact h41 (this ▸ List.getElem_mem _)
  · have h3 := (hfl p').mp h2.flags
    obtain ⟨i, rfl⟩ : ∃ i, p' = X.length + (i + 1) := ⟨p' - X.length - 1, by omega⟩
    have e4 : b.toList.drop (X.length + (i + 1)) = ([76, 65, 71, 83, 32, 40] ++ (C ++ 41 :: Y)).drop i := by
      rw [← List.drop_drop, hdrop]
      rfl
    rw [e4] at h3
    refine noF_drop _ i hn ?_
    rw [← h3]
    exact List.take_prefix _ _
  · rw [words_eq]
    unfold wRun
    have e5 : (b.extract (X.length + 7) (X.length + 7 + C.length)).toList = C := by
      simp only [Array.toList_extract, List.extract_eq_take_drop]
      rw [← List.drop_drop, hdrop]
      have e6 : X.length + 7 + C.length - (X.length + 7) = C.length := by omega
      rw [e6]
      show (C ++ 41 :: Y).take C.length = C
      simp
    rw [e5]
abbrev wordsG (l : List UInt8) : List (Array UInt8) := wFin (l.foldl wStep ([], []))
theorem G_sp (l : List UInt8) : wordsG (32 :: l) = wordsG l := rfl
theorem takeWhile_app {p : UInt8 → Bool} : ∀ (c rest : List UInt8), (∀ x ∈ c, p x = true) → (∀ x ∈ rest.head?, p x = false) → (c ++ rest).takeWhile p = c ∧ (c ++ rest).dropWhile p = rest
  | [], [], _, _ => ⟨rfl, rfl⟩
  | [], y :: r, _, h => by
    have := h y rfl
    simp [this]
  | x :: c, rest, h, h' => by
    have h1 := h x (List.mem_cons_self ..)
    obtain ⟨h2, h3⟩ := takeWhile_app c rest (fun y hy => h y (List.mem_cons_of_mem _ hy)) h'
    rw [List.cons_append, List.takeWhile_cons_of_pos h1, List.dropWhile_cons_of_pos h1, h2, h3]
    exact ⟨rfl, rfl⟩
theorem G_tok {c rest : List UInt8} (hc : c ≠ []) (hs : ∀ x ∈ c, Bytes.isSpace x = false) (hr : ∀ x ∈ rest.head?, Bytes.isSpace x = true) : wordsG (c ++ rest) = c.toArray :: wordsG rest := by
  obtain ⟨x, c', rfl⟩ := List.exists_cons_of_ne_nil hc
  obtain ⟨h1, h2⟩ := takeWhile_app (p := fun x => !Bytes.isSpace x) c' rest (fun y hy => by rw [hs y (List.mem_cons_of_mem _ hy)]; rfl) (fun y hy => by rw [hr y hy]; rfl)
  show wFin ((c' ++ rest).foldl wStep (wStep ([], []) x)) = _
  have e : wStep ([], []) x = ([], [x]) := by
    unfold wStep
    rw [if_neg (by rw [hs x (List.mem_cons_self ..)]; decide)]
    rfl
  rw [e, wFold_in _ [x] (by simp), h1, h2]
  rfl
theorem G_flat : ∀ (cs : List (List UInt8)), (∀ c ∈ cs, c ≠ [] ∧ ∀ x ∈ c, Bytes.isSpace x = false) → wordsG (cs.flatMap fun w => 32 :: w) = cs.map (·.toArray)
  | [], _ => rfl
  | c :: cs, h => by
    have h1 := h c (List.mem_cons_self ..)
    rw [List.flatMap_cons, List.cons_append, G_sp, G_tok h1.1 h1.2, G_flat cs fun x hx => h x (List.mem_cons_of_mem _ hx)]
    · rfl
    · intro x hx
      cases cs with
      | nil => cases hx
      | cons d ds =>
        simp only [List.flatMap_cons, List.cons_append, List.head?_cons] at hx
        cases hx
        decide
theorem G_join {c : List UInt8} {cs : List (List UInt8)} (hc : ∀ x ∈ c, Bytes.isSpace x = false) (h : ∀ c ∈ cs, c ≠ [] ∧ ∀ x ∈ c, Bytes.isSpace x = false) :
    wordsG (joinS (c :: cs)) = (if c = [] then [] else [c.toArray]) ++ cs.map (·.toArray) := by
  by_cases e : c = []
  · subst e
    simp only [joinS, List.nil_append, if_true]
    exact G_flat cs h
  · rw [if_neg e]
    show wordsG (c ++ _) = _
    rw [G_tok e hc, G_flat cs h]
    · rfl
    · intro x hx
      cases cs with
      | nil => cases hx
      | cons d ds =>
        simp only [List.flatMap_cons, List.cons_append, List.head?_cons] at hx
        cases hx
        decide
abbrev rowPre : List UInt8 := [42, 32, 55, 32, 70, 69, 84, 67, 72, 32, 40, 85, 73, 68, 32, 53, 32]
abbrev rowPre2 : List UInt8 := [42, 32, 55, 32, 70, 69, 84, 67, 72, 32, 40, 85, 73, 68, 32, 53, 32, 70, 76, 65, 71, 83, 32, 40]
abbrev rowSuf : List UInt8 := [32, 82, 70, 67, 56, 50, 50, 46, 83, 73, 90, 69, 32, 52, 52, 41]
def rowA (ws : List (Array UInt8)) : Array UInt8 := rowPre2.toArray ++ Bytes.joined #[32] ws ++ (41 :: rowSuf).toArray
abbrev lists (ws : List (Array UInt8)) : List (List UInt8) := ws.map (·.toList)
theorem joined_toList : ∀ (ws : List (Array UInt8)), (Bytes.joined #[32] ws).toList = joinS (lists ws)
  | [] => rfl
  | c :: r => by
    rw [joined_cons]
    have key : ∀ (r : List (Array UInt8)) (a : Array UInt8), (r.foldl (fun out part => out ++ #[32] ++ part) a).toList = a.toList ++ (lists r).flatMap fun w => 32 :: w := by
      intro r
      induction r with
      | nil => intro a; simp
      | cons d ds ih =>
        intro a
        rw [List.foldl_cons, ih]
        simp
    rw [key]
    rfl
theorem rowA_toList (ws : List (Array UInt8)) : (rowA ws).toList = rowPre ++ (flagsF ++ (joinS (lists ws) ++ 41 :: rowSuf)) := by
  unfold rowA
  rw [Array.toList_append, Array.toList_append, joined_toList]
  simp only [List.append_assoc]
  rfl
def Good (w : List UInt8) : Prop := w ≠ [] ∧ ∀ c ∈ w, Bytes.isSpace c = false ∧ c ≠ 41
def AllGood (ws : List (Array UInt8)) : Prop := ∀ w ∈ ws, Good w.toList
theorem Good.no32 {w : List UInt8} (h : Good w) : 32 ∉ w := fun x => absurd (h.2 32 x).1 (by decide)
theorem noF_suf : noF (41 :: rowSuf) := ⟨by decide, by decide, by decide, by decide, by decide, by decide, by decide, by decide, by decide, by decide, by decide, by decide, by decide, by decide, by decide, by decide, by decide, trivial⟩
theorem join_mem {c : UInt8} : ∀ {ts : List (List UInt8)}, c ∈ joinS ts → c = 32 ∨ ∃ t ∈ ts, c ∈ t
  | [], h => nomatch h
  | t :: ts, h => by
    rcases List.mem_append.mp h with h | h
    · exact .inr ⟨t, List.mem_cons_self .., h⟩
    · obtain ⟨w, hw, h⟩ := List.mem_flatMap.mp h
      rcases List.mem_cons.mp h with h | h
      · exact .inl h
      · exact .inr ⟨w, List.mem_cons_of_mem _ hw, h⟩
theorem row_no10 {ws : List (Array UInt8)} (hg : AllGood ws) : ∀ c ∈ (rowA ws).toList, c ≠ 10 := by
  intro c hc e
  subst e
  rw [rowA_toList] at hc
  simp only [List.mem_append] at hc
  rcases hc with hc | hc | hc | hc
  · exact absurd hc (by decide)
  · exact absurd hc (by decide)
  · rcases join_mem hc with h | ⟨t, ht, h⟩
    · exact absurd h (by decide)
    · obtain ⟨w, hw, rfl⟩ := List.mem_map.mp ht
      exact absurd ((hg w hw).2 10 h).1 (by decide)
  · exact absurd hc (by decide)
theorem good_tail {ts : List (List UInt8)} (h : ∀ t ∈ ts, Good t) : ∀ c ∈ ts, c ≠ [] ∧ ∀ x ∈ c, Bytes.isSpace x = false := fun c hc => ⟨(h c hc).1, fun x hx => ((h c hc).2 x hx).1⟩
theorem join_no41 {c : List UInt8} {ts : List (List UInt8)} (h1 : 41 ∉ c) (h : ∀ t ∈ ts, Good t) : 41 ∉ joinS (c :: ts) := by
  intro hm
  rcases join_mem hm with h2 | ⟨t, ht, h2⟩
  · exact absurd h2 (by decide)
  · rcases List.mem_cons.mp ht with rfl | ht
    · exact h1 h2
    · exact ((h t ht).2 41 h2).2 rfl
/-- the row whose content begins behind the mark X F: tokens c :: ts -/
theorem parsed_tokens {b : Array UInt8} {X c : List UInt8} {ts : List (List UInt8)} (hb : b.toList = X ++ (flagsF ++ (joinS (c :: ts) ++ 41 :: rowSuf))) (h10 : ∀ x ∈ b.toList, x ≠ 10) (hc : ∀ x ∈ c, Bytes.isSpace x = false ∧ x ≠ 41) (ht : ∀ t ∈ ts, Good t)
    (hn : noPairL ((40 :: c) :: ts)) : Parsed b ((if c = [] then [] else [c.toArray]) ++ ts.map (·.toArray)) := by
  rw [← G_join (fun x hx => (hc x hx).1) (good_tail ht)]
  refine parsed_at hb h10 (join_no41 (fun x => (hc 41 x).2 rfl) ht) ?_
  have e : ([76, 65, 71, 83, 32, 40] : List UInt8) ++ (joinS (c :: ts) ++ 41 :: rowSuf) = [76, 65, 71, 83] ++ 32 :: (joinS ((40 :: c) :: ts) ++ 41 :: rowSuf) := rfl
  rw [e]
  refine noF_tok (noF_join noF_suf ts (40 :: c) ?_ (fun x hx => ⟨(ht x hx).1, (ht x hx).no32⟩) hn) _ (by decide) fun x => absurd x.1 (by decide)
  intro hm
  rcases List.mem_cons.mp hm with hm | hm
  · exact absurd hm (by decide)
  · exact absurd (hc 32 hm).1 (by decide)
theorem suffix_40 {c : List UInt8} (h : flags5 <:+ 40 :: c) : flags5 <:+ c := by
  rcases List.suffix_cons_iff.mp h with h | h
  · exact absurd (List.cons.inj h).1 (by decide)
  · exact h
theorem map_lists (ws : List (Array UInt8)) : (lists ws).map (·.toArray) = ws := by
  unfold lists
  rw [List.map_map]
  have : ((fun x : List UInt8 => x.toArray) ∘ fun x : Array UInt8 => x.toList) = _root_.id := by funext x; simp
  rw [this, List.map_id]
theorem noPair_40 {c : List UInt8} {ts : List (List UInt8)} (h : noPairL (c :: ts)) : noPairL ((40 :: c) :: ts) := by
  cases ts with
  | nil => trivial
  | cons d ds => exact ⟨fun x => h.1 ⟨suffix_40 x.1, x.2⟩, h.2⟩
theorem parsed_plain {ws : List (Array UInt8)} (hg : AllGood ws) (hn : noPairL (lists ws)) : Parsed (rowA ws) ws := by
  cases ws with
  | nil =>
    have := parsed_tokens (b := rowA []) (X := rowPre) (c := []) (ts := []) (rowA_toList []) (row_no10 hg) (fun x hx => nomatch hx) (fun t ht => nomatch ht) trivial
    exact this
  | cons w ws =>
    have hw := hg w (List.mem_cons_self ..)
    have := parsed_tokens (b := rowA (w :: ws)) (X := rowPre) (c := w.toList) (ts := lists ws) (rowA_toList _) (row_no10 hg) hw.2 (fun t ht => by
      obtain ⟨v, hv, rfl⟩ := List.mem_map.mp ht
      exact hg v (List.mem_cons_of_mem _ hv)) (noPair_40 hn)
    rw [if_neg hw.1, map_lists] at this
    simpa using this
end Mine

-- part RxX
namespace Mine
open PySem PySem.W PySem.Calls PyProof.Rows Builtin
theorem noPair_of : ∀ (l : List (List UInt8)), (∀ j, j + 1 < l.length → ¬ prL (l.getD j []) (l.getD (j + 1) [])) → noPairL l
  | [], _ => trivial
  | [_], _ => trivial
  | a :: b :: r, h => ⟨h 0 (by simp), noPair_of (b :: r) fun j hj => by
      have := h (j + 1) (by simp at hj ⊢; omega)
      simpa using this⟩
theorem noPair_tail {a : List UInt8} {r : List (List UInt8)} (h : noPairL (a :: r)) : noPairL r := by
  cases r with
  | nil => trivial
  | cons b r => exact h.2
abbrev wAt (ws : List (Array UInt8)) (k : Nat) : Array UInt8 := ws.getD k #[]
def pairAt (ws : List (Array UInt8)) (k : Nat) : Prop := prL (wAt ws (k - 1)).toList (wAt ws k).toList
open Classical in
noncomputable def cutAt (ws : List (Array UInt8)) (k : Nat) : List (Array UInt8) := (if (wAt ws k).toList = [40] then [] else [((wAt ws k).toList.drop 1).toArray]) ++ ws.drop (k + 1)
open Classical in
noncomputable def toldUp (ws : List (Array UInt8)) : Nat → List (Array UInt8)
  | 0 => ws
  | i + 1 => if pairAt ws (i + 1) then cutAt ws (i + 1) else toldUp ws i
noncomputable abbrev toldFin (ws : List (Array UInt8)) : List (Array UInt8) := toldUp ws (ws.length - 1)
theorem told_up (ws : List (Array UInt8)) : ∀ i, ((∀ k, 1 ≤ k → k ≤ i → ¬ pairAt ws k) ∧ toldUp ws i = ws) ∨ ∃ k, 1 ≤ k ∧ k ≤ i ∧ pairAt ws k ∧ (∀ j, k < j → j ≤ i → ¬ pairAt ws j) ∧ toldUp ws i = cutAt ws k
  | 0 => .inl ⟨fun k h1 h2 => by omega, rfl⟩
  | i + 1 => by
    unfold toldUp
    by_cases h : pairAt ws (i + 1)
    · rw [if_pos h]
      exact .inr ⟨i + 1, by omega, Nat.le_refl _, h, fun j h1 h2 => by omega, rfl⟩
    · rw [if_neg h]
      rcases told_up ws i with ⟨h1, h2⟩ | ⟨k, h1, h2, h3, h4, h5⟩
      · refine .inl ⟨fun k a b => ?_, h2⟩
        by_cases e : k = i + 1
        · rw [e]; exact h
        · exact h1 k a (by omega)
      · refine .inr ⟨k, h1, by omega, h3, fun j a b => ?_, h5⟩
        by_cases e : j = i + 1
        · rw [e]; exact h
        · exact h4 j a (by omega)
theorem lists_getD (ws : List (Array UInt8)) (j : Nat) : (lists ws).getD j [] = (wAt ws j).toList := by
  unfold lists wAt
  rw [List.getD_eq_getElem?_getD, List.getD_eq_getElem?_getD, List.getElem?_map]
  cases ws[j]? <;> rfl
theorem joinS_split (Z f c : List UInt8) (A R : List (List UInt8)) : joinS (A ++ (Z ++ f) :: (40 :: c) :: R) = joinS (A ++ [Z]) ++ (f ++ 32 :: 40 :: joinS (c :: R)) := by
  cases A with
  | nil => simp [joinS]
  | cons x A => simp [joinS, List.flatMap_append]
theorem split_at (ws : List (Array UInt8)) {k : Nat} (h1 : 1 ≤ k) (h2 : k < ws.length) : ws = ws.take (k - 1) ++ wAt ws (k - 1) :: wAt ws k :: ws.drop (k + 1) := by
  have e1 : ws.drop (k - 1) = wAt ws (k - 1) :: wAt ws k :: ws.drop (k + 1) := by
    rw [List.drop_eq_getElem_cons (by omega), show k - 1 + 1 = k by omega, List.drop_eq_getElem_cons h2]
    unfold wAt
    rw [List.getD_eq_getElem?_getD, List.getElem?_eq_getElem (by omega), List.getD_eq_getElem?_getD, List.getElem?_eq_getElem h2]
    rfl
  rw [← e1, List.take_append_drop]
theorem told_law {ws : List (Array UInt8)} (hg : AllGood ws) : Parsed (rowA ws) (toldFin ws) ∧ AllGood (toldFin ws) ∧ noPairL (lists (toldFin ws)) := by
  rcases told_up ws (ws.length - 1) with ⟨h1, h2⟩ | ⟨k, h1, h2, h3, h4, h5⟩
  · rw [toldFin, h2]
    have hn : noPairL (lists ws) := noPair_of _ fun j hj => by
      rw [lists_getD, lists_getD]
      exact h1 (j + 1) (by omega) (by rw [List.length_map] at hj; omega)
    exact ⟨parsed_plain hg hn, hg, hn⟩
  · rw [toldFin, h5]
    have hk : k < ws.length := by omega
    have hs := split_at ws h1 hk
    obtain ⟨⟨Z, hZ⟩, ⟨c, hc⟩⟩ := h3
    have hc : (wAt ws k).toList = 40 :: c := hc.symm
    have hR : ∀ t ∈ lists (ws.drop (k + 1)), Good t := fun t ht => by
      obtain ⟨v, hv, rfl⟩ := List.mem_map.mp ht
      exact hg v (List.mem_of_mem_drop hv)
    have hb : Good (40 :: c) := by
      rw [← hc]
      refine hg _ ?_
      unfold wAt
      rw [List.getD_eq_getElem?_getD, List.getElem?_eq_getElem hk]
      exact List.getElem_mem _
    have hcc : ∀ x ∈ c, Bytes.isSpace x = false ∧ x ≠ 41 := fun x hx => hb.2 x (List.mem_cons_of_mem _ hx)
    have hn : noPairL ((40 :: c) :: lists (ws.drop (k + 1))) := by
      have e : (40 :: c) :: lists (ws.drop (k + 1)) = lists (ws.drop k) := by
        rw [List.drop_eq_getElem_cons hk]
        have e2 : ws[k] = wAt ws k := by
          unfold wAt
          rw [List.getD_eq_getElem?_getD, List.getElem?_eq_getElem hk]
          rfl
        rw [e2]
        show _ = (wAt ws k).toList :: _
        rw [hc]
      rw [e]
      refine noPair_of _ fun j hj => ?_
      rw [List.length_map, List.length_drop] at hj
      have e3 : ∀ i, (lists (ws.drop k)).getD i [] = (wAt ws (k + i)).toList := fun i => by
        rw [lists_getD]
        unfold wAt
        rw [List.getD_eq_getElem?_getD, List.getElem?_drop, List.getD_eq_getElem?_getD]
      rw [e3, e3]
      have := h4 (k + j + 1) (by omega) (by omega)
      unfold pairAt at this
      exact this
    have hcut : cutAt ws k = (if c = [] then [] else [c.toArray]) ++ (lists (ws.drop (k + 1))).map (·.toArray) := by
      unfold cutAt
      rw [hc, map_lists]
      by_cases e : c = []
      · rw [if_pos e, if_pos (by rw [e])]
      · rw [if_neg e, if_neg (fun x => e (List.cons.inj x).2)]
        rfl
    refine ⟨?_, ?_, ?_⟩
    · rw [hcut]
      refine parsed_tokens (X := rowPre ++ (flagsF ++ joinS (lists (ws.take (k - 1)) ++ [Z]))) ?_ (row_no10 hg) hcc hR hn
      rw [rowA_toList]
      have e : lists ws = lists (ws.take (k - 1)) ++ (Z ++ flags5) :: (40 :: c) :: lists (ws.drop (k + 1)) := by
        conv => lhs; rw [hs]
        unfold lists
        rw [List.map_append, List.map_cons, List.map_cons, hc, hZ]
      rw [e, joinS_split]
      simp only [List.append_assoc, List.cons_append, List.nil_append]
    · rw [hcut, map_lists]
      intro w hw
      rcases List.mem_append.mp hw with hw | hw
      · by_cases e : c = []
        · rw [if_pos e] at hw; cases hw
        · rw [if_neg e] at hw
          rw [List.mem_singleton.mp hw]
          exact ⟨e, hcc⟩
      · exact hg w (List.mem_of_mem_drop hw)
    · rw [hcut, map_lists]
      by_cases e : c = []
      · rw [if_pos e]
        exact noPair_tail hn
      · rw [if_neg e]
        show noPairL (c :: lists (ws.drop (k + 1)))
        cases hd : lists (ws.drop (k + 1)) with
        | nil => trivial
        | cons d ds =>
          rw [hd] at hn
          exact ⟨fun x => hn.1 ⟨x.1.trans (List.suffix_cons ..), x.2⟩, hn.2⟩
theorem good_k {v : UInt8} {n : Int} (e : (v.toNat : Int) = n) (h1 : n ≠ 32) (h2 : n ≠ 41) (h3 : ¬ (9 ≤ n ∧ n ≤ 13)) : Good [107, v] := by
  refine ⟨by simp, fun c hc => ?_⟩
  simp only [List.mem_cons, List.not_mem_nil, or_false] at hc
  rcases hc with rfl | rfl
  · exact ⟨by decide, by decide⟩
  · refine ⟨space_not (by omega), fun x => ?_⟩
    rw [x] at e
    have : (41 : UInt8).toNat = 41 := rfl
    omega
theorem told_again {ws : List (Array UInt8)} (hg : AllGood ws) : Parsed (rowA (toldFin ws)) (toldFin ws) := parsed_plain (told_law hg).2.1 (told_law hg).2.2
end Mine

-- part RxY
namespace Mine
open PySem PySem.W PySem.Calls PyProof.Rows Builtin
section
variable {prog : Program} {w : World} {A : Around} {E : Value → Shared → Prop} {s : Shared} {g : Heap} {L l : Addr} {m : Str → Option Value} {news : List (Addr × Obj)} {o : Obj} {vs : List Value} {ws : List (Array UInt8)} {n : Nat} {Q : Value → Shared → Prop}
theorem join_row {t : Tok} (F : Fr g L s.heap m) (hg : g.get? l = some o) (hc : o.cls = .type "list" ∨ o.cls = .type "tuple") (hd : o.data = .seq vs.toArray n) (hv : BytesAre vs ws) (hz : ws.length ≤ 20) (hs : ∀ c ∈ ws, c.size ≤ 30)
    (h : ∀ c t' k, c = Bytes.joined #[32] ws → c.size ≤ 1000 → Q (.bytes c t') { s with toks := k }) :
    wpAny (model prog w) A (call (.builtin "bytes.join") [.bytes #[32] t, .ref l]) Q E s := by
  have h1 := joined_le #[32] 30 ws hs
  have h2 := fold_le 30 ws (1 * (ws.length - 1)) hs
  have e1 : (#[32] : Array UInt8).size = 1 := rfl
  rw [e1] at h1
  refine call_join (F.keep _ _ hg) hc hd hv ?_ ?_ fun t' k => h _ t' k rfl ?_
  · rw [e1]; omega
  · omega
  · omega
theorem add_B {b c : Array UInt8} {t u : Tok} (hsz : b.size + c.size ≤ 100000) (h : ∀ t' k, Q (.bytes (b ++ c) t') { s with toks := k }) : wpAny (model prog w) A (binaryOp .Add (.bytes b t) (.bytes c u)) Q E s :=
  KBy.add_bytes (by omega) h
end
theorem row_size {ws : List (Array UInt8)} (hz : ws.length ≤ 20) (hs : ∀ c ∈ ws, c.size ≤ 30) : (rowA ws).size ≤ 1000 := by
  have h1 := joined_le #[32] 30 ws hs
  have e1 : (#[32] : Array UInt8).size = 1 := rfl
  rw [e1] at h1
  unfold rowA
  simp only [Array.size_append, List.size_toArray, List.length_cons, List.length_nil]
  omega
theorem row_is {c : Array UInt8} {ws : List (Array UInt8)} (h : c = Bytes.joined #[32] ws) : #[42, 32, 55, 32, 70, 69, 84, 67, 72, 32, 40, 85, 73, 68, 32, 53, 32, 70, 76, 65, 71, 83, 32, 40] ++ c ++ #[41, 32, 82, 70, 67, 56, 50, 50, 46, 83, 73, 90, 69, 32, 52, 52, 41] = rowA ws := by
  subst h; rfl
theorem wAt_le {ws : List (Array UInt8)} {n : Nat} (h : ∀ c ∈ ws, c.size ≤ n) (k : Nat) : (wAt ws k).size ≤ n := by
  unfold wAt
  rw [List.getD_eq_getElem?_getD]
  cases e : ws[k]? with
  | none => simp
  | some c => exact h c (List.mem_of_getElem? e)
section
variable {prog : Program} {w : World} {A : Around} {E : Value → Shared → Prop} {s : Shared} {h₀ : Heap} {L l r : Addr} {m : Str → Option Value} {news : List (Addr × Obj)} {value slice : PySem.Expr} {vs us : List Value} {ws : List (Array UInt8)} {vl vu : Value} {lo hi : Option Int} {n : Nat} {Q : Value → Shared → Prop}
theorem copy_H (F : Fr h₀ L s.heap m) (N : News h₀ L s.heap news) (hl : s.heap.IsList l vs.toArray) (hz : vs.length ≤ 1000000)
    (h : ∀ D c h', Fr h₀ L h' m → News h₀ L h' ((D, PySem.W.listOf vs.toArray c) :: news) → (∀ q ∈ news, q.1 < D) → Q (.ref D) { s with heap := h' }) : wpAny (model prog w) A (call (.type "list") [.ref l]) Q E s :=
  list_copyK F N hl h (by rw [sizeLine_eq, List.size_toArray]; omega)
theorem slice_H (F : Fr h₀ L s.heap m) (N : News h₀ L s.heap news) (hl : s.heap.IsList l vs.toArray) (hb : BytesAre vs ws) (pl : IsPart vl lo) (pu : IsPart vu hi) (hz : vs.length ≤ 1000000)
    (h : ∀ D us h', Fr h₀ L h' m → News h₀ L h' ((D, PySem.W.listOf (List.toArray us) 0) :: news) → (∀ p ∈ news, p.1 < D) → BytesAre us (pickB ws lo hi) → us.length ≤ vs.length → Q (.ref D) { s with heap := h' })
    (hs : subscripted slice false (.ref l) (.ref s.heap.objs.size) = operate [.ref s.heap.objs.size, .ref l] (getItem (.ref l) (.ref s.heap.objs.size))) (ht : ∀ r, letTemporaryGo value (.ref l) r = pure ()) :
    wpAny (model prog w) A (subscriptTail value slice (.ref l) (.ref s.heap.objs.size)) Q E { s with heap := s.heap.push { cls := .type "slice", data := .fields #[vl, vu, .none] } } := by
  have hp : BytesAre (kms_pick vs lo hi) (pickB ws lo hi) := by
    unfold kms_pick pickB
    rw [hb.length]
    exact BytesAre.take (BytesAre.drop hb _) _
  refine kms_slice_lit (its := vs.toArray) (zs := kms_pick vs lo hi) F N hl pl pu rfl (fun D h' F' N' l1 => h D _ h' F' N' l1 hp ?_) hs ht (by rw [sizeLine_eq, List.size_toArray]; omega)
  rw [hp.length, hb.length]
  exact pickB_len ws lo hi
theorem len_H (hl : s.heap.IsList l vs.toArray) (hz : vs.length ≤ 1000000) (h : ∀ t k, Q (.int (vs.length : Int) t) { s with toks := k }) : wpAny (model prog w) A (call (.builtin "len") [.ref l]) Q E s := by
  refine call_len_list (items := vs.toArray) hl (by rw [List.size_toArray]; omega) ?_
  have := h (s.toks + 1) (s.toks + 1 + 1)
  simpa using this
theorem item_H {i : Int} {u : Tok} (hl : s.heap.IsList l vs.toArray) (hv : BytesAre vs ws) (h0 : 0 ≤ i) (h1 : i < (ws.length : Int)) (hz : ws.length ≤ 1000000) (h : ∀ t, Q (.bytes (wAt ws i.toNat) t) s)
    (hs : subscripted slice false (.ref l) (.int i u) = operate [.ref l, .int i u] (getItem (.ref l) (.int i u))) :
    wpAny (model prog w) A (subscriptTail value slice (.ref l) (.int i u)) Q E s := by
  have hi : i.toNat < ws.length := by omega
  obtain ⟨t, ht⟩ := hv.get i.toNat hi
  have e : wAt ws i.toNat = ws[i.toNat] := by
    unfold wAt
    rw [List.getD_eq_getElem?_getD, List.getElem?_eq_getElem hi]
    rfl
  rw [e] at h
  exact tail_any hl.typeIs slot_list_getitem.lookup (wpAny_getItem_list hl h0 (by omega) (by simpa using ht) (h t)) hs
theorem add_H (F : Fr h₀ L s.heap m) (N : News h₀ L s.heap news) (hl : s.heap.IsList l vs.toArray) (hr : s.heap.IsList r us.toArray) (hz : vs.length + us.length ≤ 1000000)
    (h : ∀ D h', Fr h₀ L h' m → News h₀ L h' ((D, PySem.W.listOf (vs ++ us).toArray 0) :: news) → (∀ q ∈ news, q.1 < D) → Q (.ref D) { s with heap := h' }) : wpAny (model prog w) A (binaryOp .Add (.ref l) (.ref r)) Q E s :=
  add_lists (hsz := by rw [sizeLine_eq]; omega) F N hl hr fun h' F' N' => h _ h' F' N' fun q hq => Heap.lt_size (N q hq).1
end
structure CutJ (l : Addr) (ws : List (Array UInt8)) (k : Nat) (m : Str → Option Value) (nx : List (Addr × Obj)) : Prop where
  ex : ∃ (T : Addr) (us : List Value) (n : Nat), nx = [(T, PySem.W.listOf us.toArray n)] ∧ BytesAre us (toldUp ws k) ∧ m (Str.ofString "told") = some (.ref T) ∧ m (Str.ofString "words") = some (.ref l) ∧ us.length ≤ 50
section
variable {g h' : Heap} {L I T l : Addr} {oI : Obj} {m' : Str → Option Value} {led : List (Addr × Obj)} {k n : Nat} {us : List Value} {ws ws' : List (Array UInt8)} {s₁ : Shared} {tks : Nat}
theorem turn_cut (F : Fr g L h' m') (N : News g L h' led) (hT : (T, PySem.W.listOf us.toArray n) ∈ led) (hI : (I, oI) ∈ led) (hu : BytesAre us ws') (hw : ws' = toldUp ws (k + 1)) (hz : us.length ≤ 50)
    (e1 : m' (Str.ofString "told") = some (.ref T)) (e2 : m' (Str.ofString "words") = some (.ref l)) : TurnEnd g L (fun m nx => CutJ l ws (k + 1) m nx) I oI s₁ { s₁ with heap := h', toks := tks } :=
  TurnEnd.intro [(T, _)] F N (one_in hT) hI ⟨⟨T, us, n, rfl, hw ▸ hu, e1, e2, hz⟩⟩
end
theorem picked_tail5 (b : Array UInt8) : (KBy.picked b (some (-5)) none).toList = b.toList.drop (b.size - 5) := by
  rw [KBc.picked_eq]
  have e1 : clipAt b.size (-5) = b.size - 5 := by
    have := clipAt_cast b.size (-5)
    rw [if_pos (by omega)] at this
    omega
  simp only [Option.elim, e1]
  rw [List.take_of_length_le]
  rw [List.length_drop, Array.length_toList]
  omega
theorem picked_head1 (b : Array UInt8) : (KBy.picked b none (some 1)).toList = b.toList.take 1 := by
  rw [KBc.picked_eq]
  have e1 : clipAt b.size 1 = min 1 b.size := by
    have := clipAt_cast b.size 1
    rw [if_neg (by omega)] at this
    omega
  simp only [Option.elim, e1, List.drop_zero, Nat.sub_zero]
  have hl : b.toList.length = b.size := Array.length_toList
  rw [← hl, kmk_take_min]
theorem picked_rest1 (b : Array UInt8) : KBy.picked b (some 1) none = (b.toList.drop 1).toArray := by
  rw [KBc.picked_eq]
  have e1 : clipAt b.size 1 = min 1 b.size := by
    have := clipAt_cast b.size 1
    rw [if_neg (by omega)] at this
    omega
  simp only [Option.elim, e1]
  have hl : b.toList.length = b.size := Array.length_toList
  rw [List.take_of_length_le (by rw [List.length_drop]; omega), ← hl, kmk_drop_min]
theorem pick_from (ws : List (Array UInt8)) (k : Nat) : pickB ws (some (1 + (k : Int) * 1 + 1)) none = ws.drop (k + 2) := by
  unfold pickB kms_lo kms_hi
  have e1 : (1 + (k : Int) * 1 + 1).toNat = k + 2 := by omega
  simp only [if_neg (show ¬ (1 + (k : Int) * 1 + 1 < 0) by omega), e1]
  rw [List.take_of_length_le (by rw [List.length_drop]; omega), kmk_drop_min]
section
variable {ws : List (Array UInt8)} {k : Nat}
theorem suf5_iff (l : List UInt8) : flags5 <:+ l ↔ l.drop (l.length - 5) = flags5 := by
  constructor
  · rintro ⟨Z, rfl⟩
    have e : (Z ++ flags5).length - 5 = Z.length := by simp
    rw [e, List.drop_left]
  · intro h
    rw [← h]
    exact List.drop_suffix _ _
theorem pre1_iff (l : List UInt8) : [40] <+: l ↔ l.take 1 = [40] := by
  cases l with
  | nil => simp
  | cons c r => simp [List.cons_prefix_cons, eq_comm]
theorem pair_iff : pairAt ws (k + 1) ↔ ((KBy.picked (wAt ws (1 + (k : Int) * 1 - 1).toNat) (some (-5)) none).toList == #[70, 76, 65, 71, 83].toList) = true ∧ ((KBy.picked (wAt ws (1 + (k : Int) * 1).toNat) none (some 1)).toList == #[40].toList) = true := by
  have e1 : (1 + (k : Int) * 1 - 1).toNat = k := by omega
  have e2 : (1 + (k : Int) * 1).toNat = k + 1 := by omega
  rw [e1, e2, picked_tail5, picked_head1, beq_iff_eq, beq_iff_eq]
  unfold pairAt prL
  rw [suf5_iff, pre1_iff, Array.length_toList]
  rfl
theorem cut_none5 (h : ((KBy.picked (wAt ws (1 + (k : Int) * 1 - 1).toNat) (some (-5)) none).toList == #[70, 76, 65, 71, 83].toList) = false) : toldUp ws k = toldUp ws (k + 1) := by
  conv => rhs; unfold toldUp
  rw [if_neg]
  intro x
  rw [(pair_iff.mp x).1] at h
  cases h
theorem cut_none1 (h : ((KBy.picked (wAt ws (1 + (k : Int) * 1).toNat) none (some 1)).toList == #[40].toList) = false) : toldUp ws k = toldUp ws (k + 1) := by
  conv => rhs; unfold toldUp
  rw [if_neg]
  intro x
  rw [(pair_iff.mp x).2] at h
  cases h
theorem cut_bare (h1 : ((KBy.picked (wAt ws (1 + (k : Int) * 1 - 1).toNat) (some (-5)) none).toList == #[70, 76, 65, 71, 83].toList) = true) (h2 : ((KBy.picked (wAt ws (1 + (k : Int) * 1).toNat) none (some 1)).toList == #[40].toList) = true)
    (h3 : ((wAt ws (1 + (k : Int) * 1).toNat).toList != #[40].toList) = false) : pickB ws (some (1 + (k : Int) * 1 + 1)) none = toldUp ws (k + 1) := by
  have e2 : (1 + (k : Int) * 1).toNat = k + 1 := by omega
  rw [pick_from]
  conv => rhs; unfold toldUp
  rw [if_pos (pair_iff.mpr ⟨h1, h2⟩)]
  unfold cutAt
  rw [e2] at h3
  have h4 : (wAt ws (k + 1)).toList = [40] := by simpa [bne] using h3
  rw [if_pos h4]
  rfl
theorem cut_rest (h1 : ((KBy.picked (wAt ws (1 + (k : Int) * 1 - 1).toNat) (some (-5)) none).toList == #[70, 76, 65, 71, 83].toList) = true) (h2 : ((KBy.picked (wAt ws (1 + (k : Int) * 1).toNat) none (some 1)).toList == #[40].toList) = true)
    (h3 : ((wAt ws (1 + (k : Int) * 1).toNat).toList != #[40].toList) = true) : [KBy.picked (wAt ws (1 + (k : Int) * 1).toNat) (some 1) none] ++ pickB ws (some (1 + (k : Int) * 1 + 1)) none = toldUp ws (k + 1) := by
  have e2 : (1 + (k : Int) * 1).toNat = k + 1 := by omega
  rw [pick_from]
  conv => rhs; unfold toldUp
  rw [if_pos (pair_iff.mpr ⟨h1, h2⟩)]
  unfold cutAt
  rw [e2] at h3 ⊢
  have h4 : ¬ (wAt ws (k + 1)).toList = [40] := by simpa [bne] using h3
  rw [if_neg h4, picked_rest1]
end
theorem toldUp_len (ws : List (Array UInt8)) : ∀ i, i + 1 ≤ ws.length → (toldUp ws i).length ≤ ws.length
  | 0, _ => Nat.le_refl _
  | i + 1, h => by
    unfold toldUp
    split
    · unfold cutAt
      rw [List.length_append, List.length_drop]
      split <;> simp <;> omega
    · exact toldUp_len ws i (by omega)
theorem toldUp_size (ws : List (Array UInt8)) {n : Nat} (hs : ∀ c ∈ ws, c.size ≤ n) : ∀ i, ∀ c ∈ toldUp ws i, c.size ≤ n
  | 0 => hs
  | i + 1 => by
    unfold toldUp
    split
    · unfold cutAt
      intro c hc
      rcases List.mem_append.mp hc with hc | hc
      · split at hc
        · cases hc
        · rw [List.mem_singleton.mp hc, List.size_toArray, List.length_drop, Array.length_toList]
          have := wAt_le hs (i + 1)
          omega
      · exact hs c (List.mem_of_mem_drop hc)
    · exact toldUp_size ws hs i
theorem toldFin_len (ws : List (Array UInt8)) : (toldFin ws).length ≤ ws.length := by
  cases ws with
  | nil => exact Nat.le_refl _
  | cons w r => exact toldUp_len _ _ (by simp)
theorem rangeSize_one1 (n : Nat) : Builtin.Range.rangeSize 1 (n : Int) 1 = ((n - 1 : Nat) : Int) := by
  unfold Builtin.Range.rangeSize
  rw [if_pos (by decide)]
  split <;> omega
theorem small_one1 (n : Nat) (h : n ≤ 100000) : Builtin.Range.small 1 (n : Int) 1 = true := small_one (by omega) (by omega) (by omega) (by omega)
section
variable {prog : Program} {w : World} {A : Around} {E : Value → Shared → Prop} {s : Shared} {h₀ : Heap} {L : Addr} {news : List (Addr × Obj)} {Q : Value → Shared → Prop}
theorem eq_parsed {r₁ r₂ : Addr} {vs₁ vs₂ : List Value} {ws₁ ws₂ : List (Array UInt8)} {b : Array UInt8} (N : News h₀ L s.heap news) (h1 : (r₁, mkTup vs₁) ∈ news) (h2 : (r₂, mkTup vs₂) ∈ news) (b1 : BytesAre vs₁ ws₁) (b2 : BytesAre vs₂ ws₂) (p1 : Parsed b ws₁) (p2 : Parsed b ws₂) (hu : A.units < cLine)
    (h : Q (.bool true) s) : wpAny (model prog w) A (compareOp .Eq (.ref r₁) (.ref r₂)) Q E s := by
  refine eq_tuples (vs := vs₁) (us := vs₂) ⟨_, N.get h1, rfl, 0, rfl⟩ ⟨_, N.get h2, rfl, 0, rfl⟩ b1 b2 hu ?_
  rw [Parsed.unique p1 p2]
  simpa using h
end
/-- a list of good words, at most k of them -/
def Ok (vs : List Value) (k : Nat) : Prop := ∃ ws, BytesAre vs ws ∧ (∀ c ∈ ws, c.size ≤ 30) ∧ AllGood ws ∧ vs.length ≤ k
theorem Ok.len {vs : List Value} {k : Nat} (h : Ok vs k) : vs.length ≤ k := by obtain ⟨_, _, _, _, h⟩ := h; exact h
theorem ok_start {t : Tok} : Ok [.bytes #[92, 65, 110, 115, 119, 101, 114, 101, 100] t] 1 :=
  ⟨_, .cons _ .nil, fun c hc => by rw [List.mem_singleton.mp hc]; decide, fun c hc => by rw [List.mem_singleton.mp hc]; exact ⟨by decide, by decide⟩, Nat.le_refl _⟩
theorem ok_add {vs : List Value} {k : Nat} {c : Array UInt8} {t : Tok} (h : Ok vs k) (hg : Good c.toList) (hz : c.size ≤ 9) : Ok (vs ++ [.bytes c t]) (k + 1) := by
  obtain ⟨ws, h1, h2, h3, h4⟩ := h
  refine ⟨ws ++ [c], BytesAre.app h1 (.cons _ .nil), snoc_small h2 (by omega), fun x hx => ?_, by simp; omega⟩
  rcases List.mem_append.mp hx with hx | hx
  · exact h3 x hx
  · rw [List.mem_singleton.mp hx]; exact hg
section
variable {prog : Program} {w : World} {A : Around} {E : Value → Shared → Prop} {s : Shared} {h₀ : Heap} {L l : Addr} {m : Str → Option Value} {news : List (Addr × Obj)} {value slice : PySem.Expr} {vs : List Value} {vl vu vk : Value} {lo hi : Option Int} {n k : Nat} {Q : Value → Shared → Prop}
theorem slice_Ok (F : Fr h₀ L s.heap m) (N : News h₀ L s.heap news) (hl : (l, PySem.W.listOf vs.toArray n) ∈ news) (hok : Ok vs k) (hk : k ≤ 20) (pl : IsPart vl lo) (pu : IsPart vu hi)
    (h : ∀ D us h', Fr h₀ L h' m → News h₀ L h' ((D, PySem.W.listOf (List.toArray us) 0) :: news) → (∀ p ∈ news, p.1 < D) → Ok us (k + 1) → Q (.ref D) { s with heap := h' })
    (hs : subscripted slice false (.ref l) (.ref s.heap.objs.size) = operate [.ref s.heap.objs.size, .ref l] (getItem (.ref l) (.ref s.heap.objs.size))) (ht : ∀ r, letTemporaryGo value (.ref l) r = pure ()) :
    wpAny (model prog w) A (subscriptTail value slice (.ref l) (.ref s.heap.objs.size)) Q E { s with heap := s.heap.push { cls := .type "slice", data := .fields #[vl, vu, .none] } } := by
  obtain ⟨ws, h1, h2, h3, h4⟩ := hok
  exact slice_H F N ⟨_, N.get hl, rfl, n, rfl⟩ h1 pl pu (by omega) (fun D us h' F' N' l1 hb hlen => h D us h' F' N' l1 ⟨_, hb, fun c hc => h2 c (pickB_in hc), fun c hc => h3 c (pickB_in hc), by omega⟩) hs ht
theorem rev_Ok {ops : List Value} (F : Fr h₀ L s.heap m) (N : News h₀ L s.heap news) (hl : (l, PySem.W.listOf vs.toArray n) ∈ news) (hok : Ok vs k) (hk : k ≤ 20) (pk : IsPart vk (some (-1)))
    (h : ∀ D us h', Fr h₀ L h' m → News h₀ L h' ((D, PySem.W.listOf (List.toArray us) 0) :: news) → (∀ p ∈ news, p.1 < D) → Ok us (k + 1) → Q (.ref D) { s with heap := h' })
    (hs : subscripted slice false (.ref l) (.ref s.heap.objs.size) = operate ops (getItem (.ref l) (.ref s.heap.objs.size))) (ht : ∀ r, letTemporaryGo value (.ref l) r = pure ()) :
    wpAny (model prog w) A (subscriptTail value slice (.ref l) (.ref s.heap.objs.size)) Q E { s with heap := s.heap.push { cls := .type "slice", data := .fields #[.none, .none, vk] } } := by
  obtain ⟨ws, h1, h2, h3, h4⟩ := hok
  refine rev_L F N hl h1 pk (by omega) (fun D us h' F' N' l1 hb => h D us h' F' N' l1 ⟨_, hb, fun c hc => h2 c (List.mem_reverse.mp hc), fun c hc => h3 c (List.mem_reverse.mp hc), ?_⟩) hs ht
  rw [hb.length, List.length_reverse, ← h1.length]
  omega
theorem add_Ok {r : Addr} {c : Array UInt8} {t : Tok} {n' : Nat} (F : Fr h₀ L s.heap m) (N : News h₀ L s.heap news) (hl : (l, PySem.W.listOf vs.toArray n) ∈ news) (hr : (r, PySem.W.listOf #[.bytes c t] n') ∈ news) (hok : Ok vs k) (hk : k ≤ 20) (hg : Good c.toList) (hz : c.size ≤ 9)
    (h : ∀ D us h', Fr h₀ L h' m → News h₀ L h' ((D, PySem.W.listOf (List.toArray us) 0) :: news) → (∀ q ∈ news, q.1 < D) → Ok us (k + 1) → Q (.ref D) { s with heap := h' }) : wpAny (model prog w) A (binaryOp .Add (.ref l) (.ref r)) Q E s := by
  have := hok.len
  exact add_H (us := [.bytes c t]) F N ⟨_, N.get hl, rfl, n, rfl⟩ ⟨_, N.get hr, rfl, n', rfl⟩ (by simp; omega) fun D h' F' N' l1 => h D _ h' F' N' l1 (ok_add hok hg hz)
end
structure StepsJ (D : Addr) (ds : List Value) (i : Nat) (m : Str → Option Value) (nx : List (Addr × Obj)) : Prop where
  ex : ∃ (W : Addr) (vs : List Value) (n : Nat), nx = [(W, PySem.W.listOf vs.toArray n), (D, PySem.W.listOf ds.toArray 0)] ∧ W ≠ D ∧ Ok vs (i + 1) ∧ m (Str.ofString "words") = some (.ref W)
section
variable {g h' : Heap} {L I W D : Addr} {oI : Obj} {m' : Str → Option Value} {led : List (Addr × Obj)} {i n : Nat} {us ds : List Value} {s₁ : Shared} {tks : Nat}
theorem turn_step (F : Fr g L h' m') (N : News g L h' led) (hW : (W, PySem.W.listOf us.toArray n) ∈ led) (hD : (D, PySem.W.listOf ds.toArray 0) ∈ led) (hI : (I, oI) ∈ led) (hWD : W ≠ D) (hok : Ok us (i + 1 + 1))
    (e : m' (Str.ofString "words") = some (.ref W)) : TurnEnd g L (fun m nx => StepsJ D ds (i + 1) m nx) I oI s₁ { s₁ with heap := h', toks := tks } :=
  TurnEnd.intro _ F N (two_in hW hD) hI ⟨⟨W, us, n, rfl, hWD, hok, e⟩⟩
end
end Mine

-- the head
namespace Mine
open PySem PySem.W PyProof.Rows
open_top hd for PySem.Challenge.rw_mj0025_02
end Mine

-- part Q1
namespace Mine
open PySem PySem.W PySem.Calls PyProof.Rows
abbrev BackWith (h₀ : Heap) (L : Addr) (m : Str → Option Value) (news : List (Addr × Obj)) (s : Shared) (Q : Value → Shared → Prop) (P : List (Array UInt8) → Prop) : Prop :=
  ∀ (r : Addr) (vs : List Value) (ws : List (Array UInt8)) (h' : Heap) (tk' : Nat), BytesAre vs ws → P ws → Fr h₀ L h' m → News h₀ L h' ((r, mkTup vs) :: news) → Q (.ref r) { s with heap := h', toks := tk' }
theorem split_len {b : Array UInt8} {p e : Nat} {vs : List Value} (h : BytesAre vs ((splitWs (b.extract p e)).map (·.toArray))) (hb : b.size ≤ 100000) : vs.length ≤ 1000001 := by
  have h1 := h.length
  have h2 := words_count ((b.extract p e).size + 1) ((b.extract p e).size + 1) (b.extract p e).toList
  rw [List.length_map] at h1
  have h3 : (b.extract p e).size ≤ b.size := by rw [Array.size_extract]; omega
  unfold splitWs at h1
  omega
section
variable {w : World} {mean : ExcName → Option Value} {mg mb : Str → Option Value}
local macro_rules | `(tactic| walk_at "getMethod ref") => `(tactic| (k_here; (with_reducible show wpAny _ _ (getMethod (Value.ref _) (PySem.Str.ofString "match") _) _ _ _); k_dflt (refine' meth_match ?k1 ?k2 ?k3 ?_; (case k1 => exact Fr.keep (by k_asm) _ _ ((by k_asm : Frag.In _ _) _ _ rfl)); (case k2 => rfl); (case k3 => rfl); k_whole)))
local macro_rules | `(tactic| walk_at "call builtin:re.Pattern.match") => `(tactic| (k_here; k_dflt (refine' match_K ?F ?N ?X ?k1 ?k2 ?k3 ?k4 ?_ ?_; (case F => k_asm); (case N => k_asm); (case X => k_asm); (case k1 => exact rfl); (case k2 => exact rfl); (case k3 => with_unfolding_all decide); (case k4 => omega); k_whole); first | (intro kno) | (intro p' e' kr kh kl a' a2' h' F' N')))
local macro_rules | `(tactic| walk_at "truthy ref") => `(tactic| (k_here; k_dflt (refine' truthy_match ?k1 ?k2 ?_; (case k1 => exact News.get (by k_asm) (by k_mem)); (case k2 => rfl); k_whole)))
local macro_rules | `(tactic| walk_at "getMethod ref") => `(tactic| (k_here; (with_reducible show wpAny _ _ (getMethod (Value.ref _) (PySem.Str.ofString "group") _) _ _ _); k_dflt (refine' meth_group ?k1 ?k2 ?k3 ?_; (case k1 => exact News.get (by k_asm) (by k_mem)); (case k2 => rfl); (case k3 => rfl); k_whole)))
local macro_rules | `(tactic| walk_at "call builtin:re.Match.group") => `(tactic| (k_here; k_dflt (refine' group_K ?F ?N ?X ?k1 ?k2 ?k3 ?k4 ?k5 ?_; (case F => k_asm); (case N => k_asm); (case X => k_asm); (case k1 => k_mem); (case k2 => k_mem); (case k3 => exact rfl); (case k4 => exact rfl); (case k5 => omega); k_whole); intro t' k'))
local macro_rules | `(tactic| walk_at "getMethod bytes") => `(tactic| (k_here; (with_reducible refine meth_split ?_)))
local macro_rules | `(tactic| walk_at "getMethod bytes") => `(tactic| (k_here; (with_reducible refine meth_join ?_)))
local macro_rules | `(tactic| walk_at "call builtin:bytes.split") => `(tactic| (k_here; k_dflt (refine' split_K ?F ?N ?k1 ?_; (case F => k_asm); (case N => k_asm); (case k1 => (simp only [Array.size_extract]; omega)); k_whole); intro vs' a' h' k' hb' F' N'))
local macro_rules | `(tactic| walk_at "call type:tuple") => `(tactic| (k_here; (with_reducible show wpAny _ _ (call (Value.type _) [Value.ref _]) _ _ _); k_dflt (refine' tuple_K ?F ?N ?k1 ?k2 ?_; (case F => k_asm); (case N => k_asm); (case k1 => k_mem); (case k2 => exact split_len (by assumption) (by omega)); k_whole); intro D' h' F' N'))
theorem parse_contract : ∀ (b : Array UInt8) (t : Tok) (_ : b.size ≤ 100000)
    (dp un : Nat) (gd : Option (List Code)) (cn : Str) (cs : Scope) (a : Addr) (ccd : Value) (cl : List (Str × Addr)) (outer : List Env) (A₀ : Around) (base h₀ : Heap) (L : Addr) (m : Str → Option Value) (news : List (Addr × Obj)) (s : Shared) (Q E : Value → Shared → Prop)
    (_ : Below A₀ base outer h₀) (_ : Fr h₀ L s.heap m) (_ : (hd.heap_39 w.params).In h₀) (_ : News h₀ L s.heap news) (_ : Top hd.view_39 (looseW hd.view_39 [Str.ofString "Flags"]) mean mg mb h₀) (_ : cs.kind = .function) (_ : dp + 1 < recursionLimit) (_ : un + 8 < cLine)
    (_ : BackWith h₀ L m news s Q (Parsed b)), wpAny (model PySem.Challenge.rw_mj0025_02.row.prog w) (ktrTop dp un gd cn cs L a ccd cl outer) (call (.ref 43) [.bytes b t]) Q E s := by
  k_fill
  w_top off
  intro b t hb dp un gd cn cs a ccd cl outer A₀ base h₀ L m news s Q E B F X N T hk hdp hun hret
  refine wpAny_call ?_
  k_dflt cell_enter
  k_steps
  all_goals (refine' hret _ _ _ _ _ ?zb ?zp ?zf ?zn; (case zf => k_asm); (case zn => first | assumption | exact cb_drop (by assumption) (by kcj_all)); (case zb => first | assumption | exact BytesAre.nil); (case zp => first | exact .inl ⟨by assumption, rfl⟩ | exact .inr ⟨_, _, by assumption, by assumption, by assumption, rfl⟩))
end
end Mine

-- part Q2
namespace Mine
open PySem PySem.W PySem.Calls PyProof.Rows
section
variable {w : World} {mean : ExcName → Option Value} {mg mb : Str → Option Value}
local macro_rules | `(tactic| walk_at "enter0") => `(tactic| (refine' code_defG ?k1 ?k2 ?k3 ?k4 ?k5 ?kA ?kF ?kK ?k6 ?k7 ?k8 ?k9 ?kB ?_ ?c2 ?c3 ?c4 ?c5; (case kA => exact rfl); (case kF => exact rfl); (case kK => assumption); (case k1 => k_asm); (case k2 => k_asm); (case k4 => exact News.nil); (case k3 => k_asm); (case k5 => k_asm); (case k6 => k_is); (case k7 => k_is); (case k8 => ktr_room); (case k9 => exact BindsTo.of_eq rfl); (case c5 => decide); (case kB => exact locs rfl); (case c2 => exact rfl); (case c3 => exact rfl); (case c4 => exact rfl); k_whole; intro g' L' h' FG' F' N' B' X' T' G'; (try dsimp only); (try k_fold)))
theorem word_contract : ∀ (x : Int) (t : Tok)
    (dp un : Nat) (gd : Option (List Code)) (cn : Str) (cs : Scope) (a : Addr) (ccd : Value) (cl : List (Str × Addr)) (outer : List Env) (A₀ : Around) (base h₀ : Heap) (L : Addr) (m : Str → Option Value) (news : List (Addr × Obj)) (s : Shared) (Q E : Value → Shared → Prop)
    (_ : Below A₀ base outer h₀) (_ : Fr h₀ L s.heap m) (_ : (hd.heap_39 w.params).In h₀) (_ : News h₀ L s.heap news) (_ : Top hd.view_39 (looseW hd.view_39 [Str.ofString "Flags"]) mean mg mb h₀) (_ : cs.kind = .function) (_ : dp + 1 < recursionLimit) (_ : un + 200 < cLine)
    (_ : ∀ (c : Array UInt8) (t' : Tok) (h' : Heap) (tk' : Nat), Good c.toList → c.size ≤ 9 → Fr h₀ L h' m → News h₀ L h' news → Q (.bytes c t') { s with heap := h', toks := tk' }),
    wpAny (model PySem.Challenge.rw_mj0025_02.row.prog w) (ktrTop dp un gd cn cs L a ccd cl outer) (call (.ref 50) [.int x t]) Q E s := by
  k_fill
  w_top off
  intro x t dp un gd cn cs a ccd cl outer A₀ base h₀ L m news s Q E B F X N T hk hdp hun hret
  refine wpAny_call ?_
  k_dflt (walk_at "enter0")
  k_steps
  all_goals (rename GSub _ _ _ => kG)
  all_goals first
    | exact hret _ _ _ _ ⟨by decide, by decide⟩ (Nat.le_of_ble_eq_true rfl) (by assumption) (back_keep N kG (by assumption))
    | exact hret _ _ _ _ (good_k (by assumption) (by assumption) (by assumption) (by omega)) (Nat.le_of_ble_eq_true rfl) (by assumption) (back_keep N kG (by assumption))
end
end Mine

-- part Q3
namespace Mine
open PySem PySem.W PySem.Calls PyProof.Rows
section
variable {w : World} {mean : ExcName → Option Value} {mg mb : Str → Option Value}
local macro_rules | `(tactic| walk_at "enter0") => `(tactic| (refine' code_defG ?k1 ?k2 ?k3 ?k4 ?k5 ?kA ?kF ?kK ?k6 ?k7 ?k8 ?k9 ?kB ?_ ?c2 ?c3 ?c4 ?c5; (case kA => exact rfl); (case kF => exact rfl); (case kK => assumption); (case k1 => k_asm); (case k2 => k_asm); (case k4 => exact News.nil); (case k3 => k_asm); (case k5 => k_asm); (case k6 => k_is); (case k7 => k_is); (case k8 => ktr_room); (case k9 => exact BindsTo.of_eq rfl); (case c5 => decide); (case kB => exact locs rfl); (case c2 => exact rfl); (case c3 => exact rfl); (case c4 => exact rfl); k_whole; intro g' L' h' FG' F' N' B' X' T' G'; (try dsimp only); (try k_fold)))
local macro_rules | `(tactic| walk_at "getMethod bytes") => `(tactic| (k_here; (with_reducible refine meth_join ?_)))
local macro_rules | `(tactic| walk_at "call builtin:bytes.join") => `(tactic| (k_here; k_dflt (refine' join_row ?k1 ?k2 ?k3 ?k4 ?k5 ?k6 ?k7 ?_; (case k1 => k_asm); (case k2 => assumption); (case k3 => assumption); (case k4 => assumption); (case k5 => assumption); (case k6 => assumption); (case k7 => assumption); k_whole); intro c' t' k' ke kz))
local macro_rules | `(tactic| walk_at "binaryOp Add bytes bytes") => `(tactic| (k_here; k_dflt (refine' add_B ?k1 ?_; (case k1 => (simp only [Array.size_append, List.size_toArray, List.length_cons, List.length_nil]; omega)); k_whole); intro t' k'))
theorem row_contract : ∀ (l : Addr) (o : Obj) (vs : List Value) (ws : List (Array UInt8)) (n : Nat) (_ : o.cls = .type "list" ∨ o.cls = .type "tuple") (_ : o.data = .seq vs.toArray n) (_ : BytesAre vs ws) (_ : ws.length ≤ 20) (_ : ∀ c ∈ ws, c.size ≤ 30)
    (dp un : Nat) (gd : Option (List Code)) (cn : Str) (cs : Scope) (a : Addr) (ccd : Value) (cl : List (Str × Addr)) (outer : List Env) (A₀ : Around) (base h₀ : Heap) (L : Addr) (m : Str → Option Value) (news : List (Addr × Obj)) (s : Shared) (Q E : Value → Shared → Prop)
    (_ : Below A₀ base outer h₀) (_ : Fr h₀ L s.heap m) (_ : (hd.heap_39 w.params).In h₀) (_ : News h₀ L s.heap news) (_ : Top hd.view_39 (looseW hd.view_39 [Str.ofString "Flags"]) mean mg mb h₀) (_ : cs.kind = .function) (_ : dp + 1 < recursionLimit) (_ : un + 200 < cLine)
    (_ : s.heap.get? l = some o)
    (_ : ∀ (t' : Tok) (h' : Heap) (tk' : Nat), (rowA ws).size ≤ 1000 → Fr h₀ L h' m → News h₀ L h' news → Q (.bytes (rowA ws) t') { s with heap := h', toks := tk' }),
    wpAny (model PySem.Challenge.rw_mj0025_02.row.prog w) (ktrTop dp un gd cn cs L a ccd cl outer) (call (.ref 57) [.ref l]) Q E s := by
  k_fill
  w_top off
  intro l o vs ws n hoc hod hv hz hs dp un gd cn cs a ccd cl outer A₀ base h₀ L m news s Q E B F X N T hk hdp hun hl hret
  refine wpAny_call ?_
  k_dflt (walk_at "enter0")
  rename GSub _ _ _ => kG
  have hg := kG _ _ hl (by simp)
  k_steps
  all_goals (rename _ = Builtin.Bytes.joined _ _ => ke; rw [row_is ke])
  all_goals exact hret _ _ _ (row_size hz hs) (by assumption) (back_keep N kG (by assumption))
end
end Mine

-- part Q4
namespace Mine
open PySem PySem.W PySem.Calls PyProof.Rows
section
variable {w : World} {mean : ExcName → Option Value} {mg mb : Str → Option Value}
local macro_rules | `(tactic| walk_at "enter0") => `(tactic| (refine' code_defG ?k1 ?k2 ?k3 ?k4 ?k5 ?kA ?kF ?kK ?k6 ?k7 ?k8 ?k9 ?kB ?_ ?c2 ?c3 ?c4 ?c5; (case kA => exact rfl); (case kF => exact rfl); (case kK => assumption); (case k1 => k_asm); (case k2 => k_asm); (case k4 => exact News.nil); (case k3 => k_asm); (case k5 => k_asm); (case k6 => k_is); (case k7 => k_is); (case k8 => ktr_room); (case k9 => exact BindsTo.of_eq rfl); (case c5 => decide); (case kB => exact locs rfl); (case c2 => exact rfl); (case c3 => exact rfl); (case c4 => exact rfl); k_whole; intro g' L' h' FG' F' N' B' X' T' G'; (try dsimp only); (try k_fold)))
local macro_rules | `(tactic| walk_at "exec For Name Call cons nil") => `(tactic| (k_here; (rename Fr _ _ _ _ => lF'); (with_unfolding_all refine' For_invVF lF' ?k1 ?k2 ?_; (case k1 => exact rfl); (case k2 => exact rfl); k_whole)))
local macro_rules | `(tactic| walk_at "pyIter ref") => `(tactic| (k_here; refine stop_intro ?_))
local macro_rules | `(tactic| walk_at "is_list_mine") => `(tactic| first | exact ⟨_, Fr.keep (by k_asm) _ _ (by assumption), rfl, _, rfl⟩ | exact ⟨_, News.get (by k_asm) (by k_mem), rfl, _, rfl⟩)
local macro_rules | `(tactic| walk_at "call type:list") => `(tactic| (k_here; (with_reducible show wpAny _ _ (call (Value.type _) [Value.ref _]) _ _ _); k_dflt (refine' copy_H ?F ?N ?k1 ?k2 ?_; (case F => k_asm); (case N => k_asm); (case k1 => walk_at "is_list_mine"); (case k2 => omega); k_whole); intro D' c' h' F' N' l1; (try k_lt l1)))
local macro_rules | `(tactic| walk_at "call builtin:len") => `(tactic| (k_here; (with_reducible show wpAny _ _ (call (Value.builtin "len") [Value.ref _]) _ _ _); k_dflt (refine' len_H ?k1 ?k2 ?_; (case k1 => walk_at "is_list_mine"); (case k2 => omega); k_whole); intro t' k'))
local macro_rules | `(tactic| walk_at "subscriptTail") => `(tactic| (k_here; (with_reducible show wpAny _ _ (subscriptTail _ _ (Value.ref _) (Value.int _ _)) _ _ _); k_dflt (refine' item_H ?k1 ?k2 ?k3 ?k4 ?k5 ?_ ?k6; (case k1 => walk_at "is_list_mine"); (case k2 => assumption); (case k3 => omega); (case k4 => omega); (case k5 => omega); (case k6 => with_unfolding_all rfl); k_whole); intro t'))
local macro_rules | `(tactic| walk_at "subscriptTail") => `(tactic| (k_here; (with_reducible show wpAny _ _ (subscriptTail _ (Expr.Slice _ _ none _) (Value.bytes _ _) (Value.ref _)) _ _ _); (with_reducible rename Fr _ _ _ _ => lF'); (with_reducible rename News _ _ _ _ => lN'); (refine slice_B (s := ⟨_, _, _, _, _⟩) lF' lN' (by constructor) (by constructor) (Nat.le_trans (wAt_le (by assumption) _) (by decide)) ?_); intro h' t' k' F' N'))
local macro_rules | `(tactic| walk_at "subscriptTail Name Slice ref ref") => `(tactic| (k_here; (with_reducible show wpAny _ _ (subscriptTail _ (PySem.Expr.Slice _ _ none _) (Value.ref _) (Value.ref _)) _ _ _); k_dflt (refine' slice_H ?F ?N ?l ?i ?p ?q ?z ?_ ?s ?t; (case F => k_asm); (case N => k_asm); (case l => walk_at "is_list_mine"); (case i => assumption); (case p => kmk_part); (case q => kmk_part); (case z => omega); (case s => with_unfolding_all rfl); (case t => kmk_pure)); intro D' us' h' F' N' l1 kb kl; (try k_lt l1)))
local macro_rules | `(tactic| walk_at "binaryOp Add ref ref") => `(tactic| (k_here; k_dflt (refine' add_H ?F ?N ?k1 ?k2 ?k3 ?_; (case F => k_asm); (case N => k_asm); (case k1 => walk_at "is_list_mine"); (case k2 => walk_at "is_list_mine"); (case k3 => (simp only [List.length_cons, List.length_nil]; omega)); k_whole); intro D' h' F' N' l1; (try k_lt l1)))
local macro_rules | `(tactic| walk_at "call type:tuple") => `(tactic| (k_here; (with_reducible show wpAny _ _ (call (Value.type _) [Value.ref _]) _ _ _); k_dflt (refine' tuple_K ?F ?N ?k1 ?k2 ?_; (case F => k_asm); (case N => k_asm); (case k1 => k_mem); (case k2 => omega); k_whole); intro D' h' F' N'))
theorem told2_contract : ∀ (l : Addr) (vs : List Value) (ws : List (Array UInt8)) (n : Nat) (_ : BytesAre vs ws) (_ : vs.length ≤ 20) (_ : ∀ c ∈ ws, c.size ≤ 30)
    (dp un : Nat) (gd : Option (List Code)) (cn : Str) (cs : Scope) (a : Addr) (ccd : Value) (cl : List (Str × Addr)) (outer : List Env) (A₀ : Around) (base h₀ : Heap) (L : Addr) (m : Str → Option Value) (news : List (Addr × Obj)) (s : Shared) (Q E : Value → Shared → Prop)
    (_ : Below A₀ base outer h₀) (_ : Fr h₀ L s.heap m) (_ : (hd.heap_39 w.params).In h₀) (_ : News h₀ L s.heap news) (_ : Top hd.view_39 (looseW hd.view_39 [Str.ofString "Flags"]) mean mg mb h₀) (_ : cs.kind = .function) (_ : dp + 1 < recursionLimit) (_ : un + 200 < cLine)
    (_ : s.heap.get? l = some (PySem.W.listOf vs.toArray n))
    (_ : ∀ (r : Addr) (us : List Value) (h' : Heap) (tk' : Nat), BytesAre us (toldFin ws) → Fr h₀ L h' m → News h₀ L h' ((r, mkTup us) :: news) → Q (.ref r) { s with heap := h', toks := tk' }),
    wpAny (model PySem.Challenge.rw_mj0025_02.row.prog w) (ktrTop dp un gd cn cs L a ccd cl outer) (call (.ref 64) [.ref l]) Q E s := by
  k_fill
  w_top off
  intro l vs ws n hv hz hs dp un gd cn cs a ccd cl outer A₀ base h₀ L m news s Q E B F X N T hk hdp hun hl hret
  have hlen := hv.length
  refine wpAny_call ?_
  k_dflt (walk_at "enter0")
  rename GSub _ _ _ => kG
  have hg := kG _ _ hl (by simp)
  k_steps
  refine stop_out ?_
  refine range_loop (ws.length - 1) (fun k m nx => CutJ l ws k m nx) _ rfl (by assumption) (small_one1 _ (by omega)) ((rangeSize_one1 _).trans (by rw [hlen])) (by assumption) (by assumption) (fun p hp => hp) ?_ ?_ ?_ ?_
  · exact ⟨⟨_, vs, _, rfl, hv, rfl, rfl, by omega⟩⟩
  · rintro k m nx ⟨T, us, n, rfl, _⟩ p hp
    rw [List.mem_singleton.mp hp]
    intro e; injection e with e; exact absurd e (by decide)
  · rintro k tk1 m₁ nx h tk2 I oI hk1 ⟨T, us, n2, rfl, hu, e1, e2, hlu⟩ hne F₁ N₁
    have hTI := neN (hne (T, _) (List.mem_cons_self ..))
    have F₂ := fr_over (x := Str.ofString "words") F₁ ((if_neg (by decide)).trans e2)
    have F₃ := fr_over (x := Str.ofString "told") F₂ ((if_neg (by decide)).trans ((if_neg (by decide)).trans e1))
    clear F₁ F₂
    simp only [List.cons_append, List.nil_append] at N₁
    k_steps
    · rename (BytesAre _ (pickB _ _ _)) => kb
      exact TurnPost.next (turn_cut (by assumption) (by assumption) (List.Mem.head _) (by k_mem) (BytesAre.app (.cons _ .nil) kb) (cut_rest (by assumption) (by assumption) (by assumption)) (by simp; omega) rfl rfl)
    · rename (BytesAre _ (pickB _ _ _)) => kb
      exact TurnPost.next (turn_cut (by assumption) (by assumption) (List.Mem.head _) (by k_mem) kb (cut_bare (by assumption) (by assumption) (by assumption)) (by omega) rfl rfl)
    · exact TurnPost.next (turn_cut (by assumption) (by assumption) (List.Mem.head _) (by k_mem) hu (cut_none1 (by assumption)) (by omega) rfl rfl)
    · exact TurnPost.next (turn_cut (by assumption) (by assumption) (List.Mem.head _) (by k_mem) hu (cut_none5 (by assumption)) (by omega) rfl rfl)
  · rintro m₁ nx h tk2 ⟨T, us, n2, rfl, hu, e1, e2, hlu⟩ F₁ N₁
    have F₂ := fr_over (x := Str.ofString "told") F₁ e1
    clear F₁
    k_steps
    exact hret _ us _ _ hu (by assumption) (back_news N kG (by assumption) (by assumption) (by k_mem))
end
end Mine

-- part Q5
namespace Mine
open PySem PySem.W PySem.Calls PyProof.Rows
section
variable {w : World} {mean : ExcName → Option Value} {mg mb : Str → Option Value}
theorem row_tuple : ∀ (l : Addr) (vs : List Value) (ws : List (Array UInt8)) (_ : BytesAre vs ws) (_ : ws.length ≤ 20) (_ : ∀ c ∈ ws, c.size ≤ 30)
    (dp un : Nat) (gd : Option (List Code)) (cn : Str) (cs : Scope) (a : Addr) (ccd : Value) (cl : List (Str × Addr)) (outer : List Env) (A₀ : Around) (base h₀ : Heap) (L : Addr) (m : Str → Option Value) (news : List (Addr × Obj)) (s : Shared) (Q E : Value → Shared → Prop)
    (_ : Below A₀ base outer h₀) (_ : Fr h₀ L s.heap m) (_ : (hd.heap_39 w.params).In h₀) (_ : News h₀ L s.heap news) (_ : Top hd.view_39 (looseW hd.view_39 [Str.ofString "Flags"]) mean mg mb h₀) (_ : cs.kind = .function) (_ : dp + 1 < recursionLimit) (_ : un + 200 < cLine)
    (_ : (l, mkTup vs) ∈ news)
    (_ : ∀ (t' : Tok) (h' : Heap) (tk' : Nat), (rowA ws).size ≤ 1000 → Fr h₀ L h' m → News h₀ L h' news → Q (.bytes (rowA ws) t') { s with heap := h', toks := tk' }),
    wpAny (model PySem.Challenge.rw_mj0025_02.row.prog w) (ktrTop dp un gd cn cs L a ccd cl outer) (call (.ref 57) [.ref l]) Q E s :=
  fun l vs ws hv hz hs dp un gd cn cs a ccd cl outer A₀ base h₀ L m news s Q E B F X N T hk hdp hun hm hret =>
    row_contract l (mkTup vs) vs ws 0 (.inr rfl) rfl hv hz hs dp un gd cn cs a ccd cl outer A₀ base h₀ L m news s Q E B F X N T hk hdp hun (N.get hm) hret
local macro_rules | `(tactic| walk_at "enter0") => `(tactic| (refine' code_defG ?k1 ?k2 ?k3 ?k4 ?k5 ?kA ?kF ?kK ?k6 ?k7 ?k8 ?k9 ?kB ?_ ?c2 ?c3 ?c4 ?c5; (case kA => exact rfl); (case kF => exact rfl); (case kK => assumption); (case k1 => k_asm); (case k2 => k_asm); (case k4 => exact News.nil); (case k3 => k_asm); (case k5 => k_asm); (case k6 => k_is); (case k7 => k_is); (case k8 => ktr_room); (case k9 => exact BindsTo.of_eq rfl); (case c5 => decide); (case kB => exact locs rfl); (case c2 => exact rfl); (case c3 => exact rfl); (case c4 => exact rfl); k_whole; intro g' L' h' FG' F' N' B' X' T' G'; (try dsimp only); (try k_fold)))
local macro_rules | `(tactic| walk_at "call ref") => `(tactic| (k_here; (with_reducible show wpAny _ _ (call (Value.ref 64) _) _ _ _); k_dflt (refine' told2_contract _ _ _ _ ?k1 ?k2 ?k3 _ _ _ _ _ _ _ _ _ _ _ _ _ _ _ _ _ _ ?b1 ?b2 ?b3 ?b4 ?b5 ?b6 ?b7 ?b8 ?b9 ?_; (case b1 => k_asm); (case b2 => k_asm); (case b3 => k_asm); (case b4 => k_asm); (case b5 => k_asm); (case b6 => first | exact rfl | assumption); (case b7 => ktr_room); (case b8 => ktr_units); (case b9 => exact Fr.keep (by k_asm) _ _ (by assumption)); (case k1 => assumption); (case k2 => assumption); (case k3 => assumption); k_whole); intro r' us' h' tk' kb F' N'))
local macro_rules | `(tactic| walk_at "call ref") => `(tactic| (k_here; (with_reducible show wpAny _ _ (call (Value.ref 57) _) _ _ _); k_dflt (refine' row_contract _ _ _ _ _ ?k1 ?k2 ?k3 ?k4 ?k5 _ _ _ _ _ _ _ _ _ _ _ _ _ _ _ _ _ _ ?b1 ?b2 ?b3 ?b4 ?b5 ?b6 ?b7 ?b8 ?b9 ?_; (case b9 => exact Fr.keep (by k_asm) _ _ (by with_reducible assumption)); (case b1 => k_asm); (case b2 => k_asm); (case b3 => k_asm); (case b4 => k_asm); (case b5 => k_asm); (case b6 => first | exact rfl | assumption); (case b7 => ktr_room); (case b8 => ktr_units); (case k1 => exact .inl rfl); (case k2 => exact rfl); (case k3 => with_reducible assumption); (case k4 => with_reducible assumption); (case k5 => with_reducible assumption); k_whole); intro t' h' tk' kz F' N'))
local macro_rules | `(tactic| walk_at "call ref") => `(tactic| (k_here; (with_reducible show wpAny _ _ (call (Value.ref 57) _) _ _ _); k_dflt (refine' row_tuple _ _ _ ?k3 ?k4 ?k5 _ _ _ _ _ _ _ _ _ _ _ _ _ _ _ _ _ _ ?b1 ?b2 ?b3 ?b4 ?b5 ?b6 ?b7 ?b8 ?b9 ?_; (case b4 => k_asm); (case b9 => k_mem); (case b1 => k_asm); (case b2 => k_asm); (case b3 => k_asm); (case b5 => k_asm); (case b6 => first | exact rfl | assumption); (case b7 => ktr_room); (case b8 => ktr_units); (case k3 => with_reducible assumption); (case k4 => exact Nat.le_trans (toldFin_len _) (by with_reducible assumption)); (case k5 => exact toldUp_size _ (by with_reducible assumption) _); k_whole); intro t' h' tk' kz F' N'))
local macro_rules | `(tactic| walk_at "call ref") => `(tactic| (k_here; (with_reducible show wpAny _ _ (call (Value.ref 43) _) _ _ _); k_dflt (refine' parse_contract _ _ ?k1 _ _ _ _ _ _ _ _ _ _ _ _ _ _ _ _ _ _ ?b1 ?b2 ?b3 ?b4 ?b5 ?b6 ?b7 ?b8 ?_; (case k1 => omega); (case b1 => k_asm); (case b2 => k_asm); (case b3 => k_asm); (case b4 => k_asm); (case b5 => k_asm); (case b6 => first | exact rfl | assumption); (case b7 => ktr_room); (case b8 => ktr_units); k_whole); intro r' vs' ws' h' tk' kb kp F' N'))
local macro_rules | `(tactic| walk_at "compareOp NotEq ref ref") => `(tactic| (k_here; k_dflt (refine' ne_parsed ?k1 ?k2 ?k3 ?k4 ?k5 ?k6 ?k7 ?k8 ?_; (case k1 => k_asm); (case k2 => k_mem); (case k3 => k_mem); (case k4 => with_reducible assumption); (case k5 => with_reducible assumption); (case k6 => with_reducible assumption); (case k7 => exact (told_law (by assumption)).1); (case k8 => first | units_room | ktr_units); k_whole)))
local macro_rules | `(tactic| walk_at "compareOp Eq ref ref") => `(tactic| (k_here; k_dflt (refine' eq_parsed ?k1 ?k2 ?k3 ?k4 ?k5 ?k6 ?k7 ?k8 ?_; (case k1 => k_asm); (case k2 => k_mem); (case k3 => k_mem); (case k4 => with_reducible assumption); (case k5 => with_reducible assumption); (case k6 => with_reducible assumption); (case k7 => exact told_again (by assumption)); (case k8 => first | units_room | ktr_units); k_whole)))
theorem well_contract : ∀ (l : Addr) (vs : List Value) (ws : List (Array UInt8)) (n : Nat) (_ : BytesAre vs ws) (_ : vs.length ≤ 20) (_ : ∀ c ∈ ws, c.size ≤ 30) (_ : AllGood ws)
    (dp un : Nat) (gd : Option (List Code)) (cn : Str) (cs : Scope) (a : Addr) (ccd : Value) (cl : List (Str × Addr)) (outer : List Env) (A₀ : Around) (base h₀ : Heap) (L : Addr) (m : Str → Option Value) (news : List (Addr × Obj)) (s : Shared) (Q E : Value → Shared → Prop)
    (_ : Below A₀ base outer h₀) (_ : Fr h₀ L s.heap m) (_ : (hd.heap_39 w.params).In h₀) (_ : News h₀ L s.heap news) (_ : Top hd.view_39 (looseW hd.view_39 [Str.ofString "Flags"]) mean mg mb h₀) (_ : cs.kind = .function) (_ : dp + 2 < recursionLimit) (_ : un + 300 < cLine)
    (_ : s.heap.get? l = some (PySem.W.listOf vs.toArray n))
    (_ : ∀ (h' : Heap) (tk' : Nat), Fr h₀ L h' m → News h₀ L h' news → Q (.bool true) { s with heap := h', toks := tk' }),
    wpAny (model PySem.Challenge.rw_mj0025_02.row.prog w) (ktrTop dp un gd cn cs L a ccd cl outer) (call (.ref 71) [.ref l]) Q E s := by
  k_fill
  w_top off
  intro l vs ws n hv hz hs hgood dp un gd cn cs a ccd cl outer A₀ base h₀ L m news s Q E B F X N T hk hdp hun hl hret
  have hlen := hv.length
  have hz2 : ws.length ≤ 20 := by omega
  refine wpAny_call ?_
  k_dflt (walk_at "enter0")
  rename GSub _ _ _ => kG
  have hg := kG _ _ hl (by simp)
  k_steps
  all_goals exact hret _ _ (by assumption) (back_keep N kG (by assumption))
end
end Mine

-- part Q6
namespace Mine
open PySem PySem.W PySem.Calls PyProof.Rows
section
variable {w : World} {mean : ExcName → Option Value} {mg mb : Str → Option Value}
theorem well_K : ∀ (l : Addr) (vs : List Value) (n k : Nat) (_ : Ok vs k) (_ : k ≤ 20)
    (dp un : Nat) (gd : Option (List Code)) (cn : Str) (cs : Scope) (a : Addr) (ccd : Value) (cl : List (Str × Addr)) (outer : List Env) (A₀ : Around) (base h₀ : Heap) (L : Addr) (m : Str → Option Value) (news : List (Addr × Obj)) (s : Shared) (Q E : Value → Shared → Prop)
    (_ : Below A₀ base outer h₀) (_ : Fr h₀ L s.heap m) (_ : (hd.heap_39 w.params).In h₀) (_ : News h₀ L s.heap news) (_ : Top hd.view_39 (looseW hd.view_39 [Str.ofString "Flags"]) mean mg mb h₀) (_ : cs.kind = .function) (_ : dp + 2 < recursionLimit) (_ : un + 300 < cLine)
    (_ : (l, PySem.W.listOf vs.toArray n) ∈ news)
    (_ : ∀ (h' : Heap) (tk' : Nat), Fr h₀ L h' m → News h₀ L h' news → Q (.bool true) { s with heap := h', toks := tk' }),
    wpAny (model PySem.Challenge.rw_mj0025_02.row.prog w) (ktrTop dp un gd cn cs L a ccd cl outer) (call (.ref 71) [.ref l]) Q E s := by
  rintro l vs n k ⟨ws, h1, h2, h3, h4⟩ hk dp un gd cn cs a ccd cl outer A₀ base h₀ L m news s Q E B F X N T hk hdp hun hm hret
  exact well_contract l vs ws n h1 (by omega) h2 h3 dp un gd cn cs a ccd cl outer A₀ base h₀ L m news s Q E B F X N T hk hdp hun (N.get hm) hret
end
local macro_rules | `(tactic| walk_at "exec For Name Name cons nil") => `(tactic| (k_here; (rename Fr _ _ _ _ => lF'); (with_unfolding_all refine' For_invVF lF' ?k1 ?k2 ?_; (case k1 => exact rfl); (case k2 => exact rfl); k_whole)))
-- the walk keeps its lines by their number alone: this row makes the number differ from that of the part ahead (Q5)
local macro_rules | `(tactic| walk_at "one row more") => `(tactic| skip)
local macro_rules | `(tactic| walk_at "pyIter ref") => `(tactic| (k_here; refine stop_intro ?_))
local macro_rules | `(tactic| walk_at "subscriptTail Name Slice ref ref") => `(tactic| (k_here; (with_reducible show wpAny _ _ (subscriptTail _ (PySem.Expr.Slice _ _ none _) (Value.ref _) (Value.ref _)) _ _ _); k_dflt (refine' slice_Ok ?F ?N ?l ?i ?z ?p ?q ?_ ?s ?t; (case F => k_asm); (case N => k_asm); (case l => k_mem); (case i => with_reducible assumption); (case p => kmk_part); (case q => kmk_part); (case z => omega); (case s => with_unfolding_all rfl); (case t => kmk_pure)); intro D' us' h' F' N' l1 kok; (try k_lt l1)))
local macro_rules | `(tactic| walk_at "subscriptTail Name Slice ref ref") => `(tactic| (k_here; (with_reducible show wpAny _ _ (subscriptTail _ (PySem.Expr.Slice none none (some _) _) (Value.ref _) (Value.ref _)) _ _ _); k_dflt (refine' rev_Ok ?F ?N ?l ?i ?z ?p ?_ ?s ?t; (case F => k_asm); (case N => k_asm); (case l => k_mem); (case i => with_reducible assumption); (case p => exact IsPart.int _ _); (case z => omega); (case s => with_unfolding_all rfl); (case t => kmk_pure)); intro D' us' h' F' N' l1 kok; (try k_lt l1)))
local macro_rules | `(tactic| walk_at "binaryOp Add ref ref") => `(tactic| (k_here; k_dflt (refine' add_Ok ?F ?N ?k1 ?k2 ?k3 ?k4 ?k5 ?k6 ?_; (case F => k_asm); (case N => k_asm); (case k1 => k_mem); (case k2 => k_mem); (case k3 => with_reducible assumption); (case k4 => omega); (case k5 => with_reducible assumption); (case k6 => with_reducible assumption); k_whole); intro D' us' h' F' N' l1 kok; (try k_lt l1)))
local macro_rules | `(tactic| walk_at "call ref") => `(tactic| (k_here; (with_reducible show wpAny _ _ (call (Value.ref 50) _) _ _ _); k_dflt (refine' word_contract _ _ _ _ _ _ _ _ _ _ _ _ _ _ _ _ _ _ _ _ ?b1 ?b2 ?b3 ?b4 ?b5 ?b6 ?b7 ?b8 ?_; (case b1 => k_asm); (case b2 => k_asm); (case b3 => k_asm); (case b4 => k_asm); (case b5 => k_asm); (case b6 => first | exact rfl | assumption); (case b7 => ktr_room); (case b8 => ktr_units); k_whole); intro c' t' h' tk' kg kz F' N'))
local macro_rules | `(tactic| walk_at "call ref") => `(tactic| (k_here; (with_reducible show wpAny _ _ (call (Value.ref 71) _) _ _ _); k_dflt (refine' well_K _ _ _ _ ?k1 ?k2 _ _ _ _ _ _ _ _ _ _ _ _ _ _ _ _ _ _ ?b1 ?b2 ?b3 ?b4 ?b5 ?b6 ?b7 ?b8 ?b9 ?_; (case b4 => k_asm); (case b9 => k_mem); (case k1 => first | with_reducible assumption | exact ok_start); (case k2 => omega); (case b1 => k_asm); (case b2 => k_asm); (case b3 => k_asm); (case b5 => k_asm); (case b6 => first | exact rfl | assumption); (case b7 => ktr_room); (case b8 => ktr_units); k_whole); intro h' tk' F' N'))
theorem law_holds : PySem.Challenge.rw_mj0025_02.Holds := by
  refine hd ?_
  k_go0
  all_goals try k_fold
  k_steps
  refine stop_out ?_
  rename IntsAre _ (List.take 8 _) => hI
  rename (List.length (List.take 8 _) = _) => hC
  have hlen := hI.length
  refine list_loopJ StepsJ _ rfl (List.Mem.tail _ (List.Mem.head _)) (by assumption) (by assumption) (fun p hp => hp) ?_ ?_ ?_ ?_ ?_
  · exact ⟨⟨_, [_], 0, rfl, by k_ne, ok_start, rfl⟩⟩
  · rintro k m nx ⟨W, vs, n, rfl, _⟩ p hp
    simp only [List.mem_cons, List.not_mem_nil, or_false] at hp
    rcases hp with rfl | rfl <;> (intro e; injection e with e; exact absurd e (by decide))
  · rintro k m nx ⟨W, vs, n, rfl, _⟩
    exact List.Mem.tail _ (List.Mem.head _)
  · rintro k v m₁ nx h tk2 I oI hvk ⟨W, vs, n, rfl, hWD, hok, e1⟩ hne F₁ N₁
    obtain ⟨xn, xt, rfl⟩ := ints_at hI hvk
    have hk8 : k < 8 := by
      have := (List.getElem?_eq_some_iff.mp hvk).1
      omega
    replace hWD := neN hWD
    have hWI := neN (hne (W, _) (List.mem_cons_self ..))
    have F₂ := fr_over (x := Str.ofString "words") F₁ ((if_neg (by decide)).trans e1)
    clear F₁
    simp only [List.cons_append, List.nil_append] at N₁
    k_steps
    all_goals (rename Ok _ _ => kok)
    all_goals exact TurnPost.next (turn_step (by assumption) (by assumption) (List.Mem.head _) (by k_mem) (by k_mem) (by k_ne) kok rfl)
  · rintro m₁ nx h tk2 ⟨W, vs, n, rfl, hWD, hok, e1⟩ F₁ N₁
    k_steps
end Mine

theorem PySem.Challenge.cw_mj0025_02_holds : PySem.Challenge.rw_mj0025_02.Holds := by
  exact Mine.law_holds
