import PyProof.Rows.All
import Wide.All
import OpenK.AllK
import Wide.FinOn
import PySem.Challenge.RW_pg0010_02
set_option Elab.async false
set_option maxRecDepth 100000
set_option linter.unusedVariables false
-- SreA
namespace Mine
section
open PySem
open Sre Sre.M

theorem runFor_succ (n : Nat) (m : M) (h : m.outcome = none) : M.runFor (n + 1) m = M.runFor n m.step := by
  rw [M.runFor, h]; rfl
theorem runFor_done (n : Nat) (m : M) (h : m.outcome.isSome = true) : M.runFor n m = m := by
  cases n with
  | zero => rfl
  | succ n => rw [M.runFor, if_pos h]
theorem runFor_add (a b : Nat) (m : M) : M.runFor (a + b) m = M.runFor b (M.runFor a m) := by
  induction a generalizing m with
  | zero => rw [Nat.zero_add]; rfl
  | succ a ih =>
    cases h : m.outcome with
    | some o => rw [runFor_done _ m (by rw [h]; rfl), runFor_done _ m (by rw [h]; rfl), runFor_done _ m (by rw [h]; rfl)]
    | none => rw [show a + 1 + b = (a + b) + 1 by omega, runFor_succ _ _ h, runFor_succ _ _ h, ih]

/-- within k steps the machine ends in m' -/
def Ends (k : Nat) (m m' : M) : Prop := M.runFor k m = m' ∧ m'.outcome.isSome = true
theorem Ends.step {k : Nat} {m m' : M} (h : Ends k m.step m') (ho : m.outcome = none) : Ends (k + 1) m m' :=
  ⟨(runFor_succ k m ho).trans h.1, h.2⟩
theorem Ends.step' {k : Nat} {m m₁ m' : M} (h : Ends k m₁ m') (e : m.step = m₁) (ho : m.outcome = none) : Ends (k + 1) m m' := (e ▸ h : Ends k m.step m').step ho
theorem Ends.more {k : Nat} {m m' : M} (h : Ends k m m') (j : Nat) : Ends (k + j) m m' :=
  ⟨by rw [runFor_add, h.1, runFor_done _ _ h.2], h.2⟩
theorem Ends.le {k j : Nat} {m m' : M} (h : Ends k m m') (hj : k ≤ j) : Ends j m m' := by
  obtain ⟨d, rfl⟩ := Nat.exists_eq_add_of_le hj
  exact h.more d

-- steps
theorem step_exec {m : M} (ho : m.outcome = none) (ha : m.answer = none) (hp : m.pc < m.code.size) : m.step = m.exec := by
  unfold M.step; rw [ho, ha]; simp [hp]

theorem step_literal {m : M} (ho : m.outcome = none) (ha : m.answer = none) (hp : m.pc < m.code.size) (hw : m.code.getD m.pc 0 = 16) :
    m.step = if m.pos ≥ m.lim then { m with seen := m.seen.add 16, answer := some false }
      else if m.text.getD m.pos 0 = m.code.getD (m.pc + 1) 0 then { m with seen := m.seen.add 16, pc := m.pc + 2, pos := m.pos + 1 }
      else { m with seen := m.seen.add 16, answer := some false } := by
  rw [step_exec ho ha hp]
  have h0 : m.word 0 = 16 := hw
  have hop : Sre.ops[16]? = some Op.LITERAL := rfl
  have hw' : m.code.getD (m.pc + 0) 0 = 16 := hw
  unfold M.exec
  simp only [h0, hop]
  by_cases h1 : m.pos ≥ m.lim
  · simp only [h1, if_true]; rfl
  · simp only [h1, if_false]
    have hacc : accepts m.code m.pc (m.text.getD m.pos 0) (m.seen.add 16) = .ok (m.text.getD m.pos 0 == m.code.getD (m.pc + 1) 0, m.seen.add 16) := by
      unfold accepts; simp only [hw, hop]
    have hit : itemWidth m.code m.pc = 2 := by unfold itemWidth; simp only [hw, hop]
    rw [hacc]
    by_cases h2 : m.text.getD m.pos 0 = m.code.getD (m.pc + 1) 0
    · rw [if_pos h2, beq_iff_eq.mpr h2]; simp only [hit]
    · rw [if_neg h2, beq_eq_false_iff_ne.mpr h2]; rfl

theorem step_success {m : M} (ho : m.outcome = none) (ha : m.answer = none) (hp : m.pc < m.code.size) (hw : m.code.getD m.pc 0 = 1)
    (hwt : m.wholeText = false) (hma : m.mustAdvance = false) :
    m.step = { m with seen := m.seen.add 1, handed := m.pos, answer := some true } := by
  rw [step_exec ho ha hp]
  have h0 : m.word 0 = 1 := hw
  have hop : Sre.ops[1]? = some Op.SUCCESS := rfl
  unfold M.exec
  simp only [h0, hop, hwt, hma, Bool.false_and, Bool.or_false, Bool.and_false, Bool.false_eq_true, if_false]
  rfl

theorem step_jump {m : M} (ho : m.outcome = none) (ha : m.answer = none) (hp : m.pc < m.code.size) (hw : m.code.getD m.pc 0 = 15) :
    m.step = { m with seen := m.seen.add 15, pc := m.pc + 1 + m.code.getD (m.pc + 1) 0 } := by
  rw [step_exec ho ha hp]
  have h0 : m.word 0 = 15 := hw
  have hop : Sre.ops[15]? = some Op.JUMP := rfl
  unfold M.exec
  simp only [h0, hop]
  rfl

theorem step_at1 {m : M} (ho : m.outcome = none) (ha : m.answer = none) (hp : m.pc < m.code.size) (hw : m.code.getD m.pc 0 = 6) (hw1 : m.code.getD (m.pc + 1) 0 = 1) :
    m.step = if m.pos = 0 ∨ m.text.getD (m.pos - 1) 0 = 10 then { m with seen := (m.seen.add 6).add 44, pc := m.pc + 2 }
      else { m with seen := (m.seen.add 6).add 44, answer := some false } := by
  rw [step_exec ho ha hp]
  have h0 : m.word 0 = 6 := hw
  have h1 : m.word 1 = 1 := hw1
  have hop : Sre.ops[6]? = some Op.AT := rfl
  unfold M.exec
  simp only [h0, hop]
  have h1' : ∀ sn, M.word { m with seen := sn } 1 = 1 := fun _ => hw1
  simp only [h1']
  have hat : ∀ sn, M.isAt { m with seen := sn } 1 = .ok (m.pos == 0 || m.text.getD (m.pos - 1) 0 == 10) := fun _ => rfl
  simp only [hat]
  by_cases hc : m.pos = 0 ∨ m.text.getD (m.pos - 1) 0 = 10
  · rw [if_pos hc]
    have : (m.pos == 0 || m.text.getD (m.pos - 1) 0 == 10) = true := by simpa using hc
    rw [this]; rfl
  · rw [if_neg hc]
    have : (m.pos == 0 || m.text.getD (m.pos - 1) 0 == 10) = false := by simpa using hc
    rw [this]; rfl

theorem step_branch {m : M} (ho : m.outcome = none) (ha : m.answer = none) (hp : m.pc < m.code.size) (hw : m.code.getD m.pc 0 = 7) (hi : m.inner = none) :
    m.step = ({ m with seen := m.seen.add 7 } : M).alternative (m.pc + 1) { lastmark := m.lastmark, lastindex := m.lastindex, whole := false, marks := #[] } := by
  rw [step_exec ho ha hp]
  have h0 : m.word 0 = 7 := hw
  have hop : Sre.ops[7]? = some Op.BRANCH := rfl
  unfold M.exec
  simp only [h0, hop]
  unfold M.keep
  simp [hi]

theorem step_assertNot {m : M} (ho : m.outcome = none) (ha : m.answer = none) (hp : m.pc < m.code.size) (hw : m.code.getD m.pc 0 = 5) (hi : m.inner = none) (hb : m.code.getD (m.pc + 2) 0 = 0) :
    m.step = ({ m with seen := m.seen.add 5 } : M).attempt
      { wait := .lookNot, pc := m.pc, pos := m.pos, outermost := m.outermost, kept := { lastmark := m.lastmark, lastindex := m.lastindex, whole := false, marks := #[] } } (m.pc + 3) m.pos false := by
  rw [step_exec ho ha hp]
  have h0 : m.word 0 = 5 := hw
  have hop : Sre.ops[5]? = some Op.ASSERT_NOT := rfl
  unfold M.exec
  simp only [h0, hop]
  have h2 : ∀ sn, M.word { m with seen := sn } 2 = 0 := fun _ => hb
  simp only [h2]
  unfold M.keep
  simp [hi]
  rfl

theorem attempt_ok {m : M} {f : Sre.Frame} {t fr : Nat} {b : Bool} (hk : f.kept.marks = #[]) (hwt : m.weight < 1000) :
    m.attempt f t fr b = { m with frames := f :: m.frames, weight := m.weight + 1, pc := t, pos := fr, handed := fr, outermost := b } := by
  unfold M.attempt
  have : ¬ (m.weight + 1 + f.kept.marks.size > 16777216) := by rw [hk]; simp; omega
  rw [if_neg this]
  simp [hk]

theorem alternative_ok {m : M} {alt : Nat} {kept : Sre.Kept} (h : (m.code.getD alt 0 == 0) = false) : m.alternative alt kept = m.attempt { m.frame .nextBranch with pc := alt, kept } (alt + 1) m.pos m.outermost := by
  unfold M.alternative; rw [h]; rfl
theorem resume_start_no {m : M} {f : Sre.Frame} (hf : f.wait = .nextStart) : M.resume m f false = if f.pos < m.lastStart then M.attemptFrom { m with mustAdvance := false } (f.pos + 1) false else m.say false := by
  unfold M.resume; rw [hf]; rfl

/-- what the machine holds when it answers to a frame -/
theorem step_resume {m : M} {f : Sre.Frame} {rest : List Sre.Frame} {b : Bool} (ho : m.outcome = none) (ha : m.answer = some b) (hf : m.frames = f :: rest) (hk : f.kept.marks = #[]) :
    m.step = M.resume { m with answer := none, frames := rest, weight := m.weight - 1, pc := f.pc, pos := f.pos, outermost := f.outermost } f b := by
  unfold M.step; rw [ho, ha, hf]; simp [hk]

theorem step_last {m : M} {b : Bool} (ho : m.outcome = none) (ha : m.answer = some b) (hf : m.frames = []) :
    m.step = { m with outcome := some (if b then .matched else .failed) } := by
  unfold M.step; rw [ho, ha, hf]; simp


/-- a state of the search: what never changes, then what does -/
def St (code text : Array Nat) (lim start : Nat) (b : Bool) (frames : List Sre.Frame) (weight pc pos handed : Nat) (ans : Option Bool) (sn : Seen) : M :=
  { code := code, text := text, lim := lim, start := start, lastStart := lim, pc := pc, pos := pos, handed := handed, outermost := b, marks := #[],
    frames := frames, weight := weight, answer := ans, seen := sn }

section
variable {code text : Array Nat} {lim start : Nat} {b : Bool} {frames : List Sre.Frame} {weight pc pos handed : Nat} {sn : Seen}

theorem st_lit_yes (hp : pc < code.size) (hw : code.getD pc 0 = 16) (hl : pos < lim) (h : text.getD pos 0 = code.getD (pc + 1) 0) :
    (St code text lim start b frames weight pc pos handed none sn).step = St code text lim start b frames weight (pc + 2) (pos + 1) handed none (sn.add 16) :=
  (step_literal (m := St code text lim start b frames weight pc pos handed none sn) rfl rfl hp hw).trans ((if_neg (Nat.not_le.mpr hl)).trans (if_pos h))
theorem st_lit_no (hp : pc < code.size) (hw : code.getD pc 0 = 16) (h : lim ≤ pos ∨ text.getD pos 0 ≠ code.getD (pc + 1) 0) :
    (St code text lim start b frames weight pc pos handed none sn).step = St code text lim start b frames weight pc pos handed (some false) (sn.add 16) := by
  refine (step_literal (m := St code text lim start b frames weight pc pos handed none sn) rfl rfl hp hw).trans ?_
  by_cases hl : lim ≤ pos
  · exact if_pos hl
  · exact (if_neg hl).trans (if_neg (h.resolve_left hl))
theorem st_success (hp : pc < code.size) (hw : code.getD pc 0 = 1) :
    (St code text lim start b frames weight pc pos handed none sn).step = St code text lim start b frames weight pc pos pos (some true) (sn.add 1) :=
  step_success (m := St code text lim start b frames weight pc pos handed none sn) rfl rfl hp hw rfl rfl
theorem st_jump (hp : pc < code.size) (hw : code.getD pc 0 = 15) :
    (St code text lim start b frames weight pc pos handed none sn).step = St code text lim start b frames weight (pc + 1 + code.getD (pc + 1) 0) pos handed none (sn.add 15) :=
  step_jump (m := St code text lim start b frames weight pc pos handed none sn) rfl rfl hp hw
theorem st_at_yes (hp : pc < code.size) (hw : code.getD pc 0 = 6) (hw1 : code.getD (pc + 1) 0 = 1) (h : pos = 0 ∨ text.getD (pos - 1) 0 = 10) :
    (St code text lim start b frames weight pc pos handed none sn).step = St code text lim start b frames weight (pc + 2) pos handed none ((sn.add 6).add 44) :=
  (step_at1 (m := St code text lim start b frames weight pc pos handed none sn) rfl rfl hp hw hw1).trans (if_pos h)
theorem st_at_no (hp : pc < code.size) (hw : code.getD pc 0 = 6) (hw1 : code.getD (pc + 1) 0 = 1) (h : ¬ (pos = 0 ∨ text.getD (pos - 1) 0 = 10)) :
    (St code text lim start b frames weight pc pos handed none sn).step = St code text lim start b frames weight pc pos handed (some false) ((sn.add 6).add 44) :=
  (step_at1 (m := St code text lim start b frames weight pc pos handed none sn) rfl rfl hp hw hw1).trans (if_neg h)
theorem st_branch (hp : pc < code.size) (hw : code.getD pc 0 = 7) (hn : (code.getD (pc + 1) 0 == 0) = false) (hwt : weight < 1000) :
    (St code text lim start b frames weight pc pos handed none sn).step =
      St code text lim start b ({ wait := .nextBranch, pc := pc + 1, pos := pos, outermost := b } :: frames) (weight + 1) (pc + 2) pos pos none (sn.add 7) := by
  refine (step_branch (m := St code text lim start b frames weight pc pos handed none sn) rfl rfl hp hw rfl).trans ?_
  unfold M.alternative
  have : ((({ St code text lim start b frames weight pc pos handed none sn with seen := (St code text lim start b frames weight pc pos handed none sn).seen.add 7 } : M).code.getD ((St code text lim start b frames weight pc pos handed none sn).pc + 1) 0) == 0) = false := hn
  rw [this, if_neg Bool.false_ne_true, attempt_ok rfl hwt]
  rfl
theorem st_assertNot (hp : pc < code.size) (hw : code.getD pc 0 = 5) (hb : code.getD (pc + 2) 0 = 0) (hwt : weight < 1000) :
    (St code text lim start b frames weight pc pos handed none sn).step =
      St code text lim start false ({ wait := .lookNot, pc := pc, pos := pos, outermost := b } :: frames) (weight + 1) (pc + 3) pos pos none (sn.add 5) := by
  refine (step_assertNot (m := St code text lim start b frames weight pc pos handed none sn) rfl rfl hp hw rfl hb).trans ?_
  rw [attempt_ok rfl hwt]
  rfl
-- answers
theorem st_yes_branch {f : Sre.Frame} (hf : f.wait = .nextBranch) (hk : f.kept.marks = #[]) :
    (St code text lim start b (f :: frames) (weight + 1) pc pos handed (some true) sn).step = St code text lim start f.outermost frames weight f.pc f.pos handed (some true) sn := by
  refine (step_resume (m := St code text lim start b (f :: frames) (weight + 1) pc pos handed (some true) sn) rfl rfl rfl hk).trans ?_
  unfold M.resume; rw [hf]; rfl
theorem st_no_branch {fpc fpos : Nat} {fo : Bool} (hn : (code.getD (fpc + code.getD fpc 0) 0 == 0) = false) (hwt : weight < 1000) :
    (St code text lim start b ({ wait := .nextBranch, pc := fpc, pos := fpos, outermost := fo } :: frames) (weight + 1) pc pos handed (some false) sn).step =
      St code text lim start fo ({ wait := .nextBranch, pc := fpc + code.getD fpc 0, pos := fpos, outermost := fo } :: frames) (weight + 1) (fpc + code.getD fpc 0 + 1) fpos fpos none sn := by
  refine (step_resume (m := St code text lim start b ({ wait := .nextBranch, pc := fpc, pos := fpos, outermost := fo } :: frames) (weight + 1) pc pos handed (some false) sn) rfl rfl rfl rfl).trans ?_
  refine Eq.trans (b := M.alternative _ (fpc + code.getD fpc 0) _) rfl ?_
  refine (alternative_ok (by exact hn)).trans ?_
  exact (attempt_ok rfl (by exact hwt)).trans rfl
theorem st_no_lookNot {fpc fpos : Nat} {fo : Bool} :
    (St code text lim start b ({ wait := .lookNot, pc := fpc, pos := fpos, outermost := fo } :: frames) (weight + 1) pc pos handed (some false) sn).step =
      St code text lim start fo frames weight (fpc + 1 + code.getD (fpc + 1) 0) fpos handed none sn := by
  refine (step_resume (m := St code text lim start b ({ wait := .lookNot, pc := fpc, pos := fpos, outermost := fo } :: frames) (weight + 1) pc pos handed (some false) sn) rfl rfl rfl rfl).trans ?_
  rfl
theorem st_yes_start {f : Sre.Frame} (hf : f.wait = .nextStart) (hk : f.kept.marks = #[]) :
    (St code text lim start b (f :: frames) (weight + 1) pc pos handed (some true) sn).step = St code text lim start f.outermost frames weight f.pc f.pos handed (some true) sn := by
  refine (step_resume (m := St code text lim start b (f :: frames) (weight + 1) pc pos handed (some true) sn) rfl rfl rfl hk).trans ?_
  unfold M.resume; rw [hf]; rfl
theorem st_ends_yes : ∃ m', Ends 1 (St code text lim start b [] weight pc pos handed (some true) sn) m' ∧ m'.outcome = some .matched ∧ m'.start = start ∧ m'.handed = handed :=
  ⟨_, (show Ends 0 _ _ from ⟨rfl, rfl⟩).step' (step_last (m := St code text lim start b [] weight pc pos handed (some true) sn) rfl rfl rfl) rfl, rfl, rfl, rfl⟩
theorem st_ends_no : ∃ m', Ends 1 (St code text lim start b [] weight pc pos handed (some false) sn) m' ∧ m'.outcome = some .failed :=
  ⟨_, (show Ends 0 _ _ from ⟨rfl, rfl⟩).step' (step_last (m := St code text lim start b [] weight pc pos handed (some false) sn) rfl rfl rfl) rfl, rfl⟩
end

-- the first pattern: (?m)^\.
def code1 : Array Nat := #[14, 4, 0, 1, 1, 6, 1, 16, 46, 1]

def R1 (text : Array Nat) (lim s : Nat) (b : Bool) (sn : Seen) : M :=
  St code1 text lim s b [{ wait := .nextStart, pc := 5, pos := s, outermost := b }] 1 5 s s none sn

def at1 (text : Array Nat) (s : Nat) : Bool := (s == 0 || text.getD (s - 1) 0 == 10) && text.getD s 0 == 46

/-- the first place from s on (k places looked at) -/
def find1 (text : Array Nat) : Nat → Nat → Option Nat
  | 0, _ => none
  | k + 1, s => if at1 text s then some s else find1 text k (s + 1)

theorem r1_fail {text : Array Nat} {lim s : Nat} {b : Bool} {sn : Seen} (h : at1 text s = false ∨ lim ≤ s) :
    ∃ sn' k pc, k ≤ 2 ∧ ∀ m' j, Ends j (St code1 text lim s b [{ wait := .nextStart, pc := 5, pos := s, outermost := b }] 1 pc s s (some false) sn') m' → Ends (j + k) (R1 text lim s b sn) m' := by
  by_cases hc : s = 0 ∨ text.getD (s - 1) 0 = 10
  · have hn : lim ≤ s ∨ text.getD s 0 ≠ code1.getD (7 + 1) 0 := by
      rcases h with h | h
      · refine .inr fun q => ?_
        have : at1 text s = true := by
          unfold at1
          have q' : text.getD s 0 = 46 := q
          rw [q']; simpa using hc
        rw [this] at h; cases h
      · exact .inl h
    exact ⟨_, 2, _, Nat.le_refl _, fun m' j hj => (hj.step' (st_lit_no (show 7 < 10 by decide) rfl hn) rfl).step' (st_at_yes (show 5 < 10 by decide) rfl rfl hc) rfl⟩
  · exact ⟨_, 1, _, by decide, fun m' j hj => hj.step' (st_at_no (show 5 < 10 by decide) rfl rfl hc) rfl⟩

theorem r1_match {text : Array Nat} {lim s : Nat} {b : Bool} {sn : Seen} (h : at1 text s = true) (hs : s < lim) :
    ∃ m', Ends 5 (R1 text lim s b sn) m' ∧ m'.outcome = some .matched ∧ m'.start = s ∧ m'.handed = s + 1 := by
  unfold at1 at h
  simp only [Bool.and_eq_true, Bool.or_eq_true, beq_iff_eq] at h
  obtain ⟨m', hm, h1, h2, h3⟩ := st_ends_yes (code := code1) (text := text) (lim := lim) (start := s) (b := b) (weight := 0) (pc := 5) (pos := s) (handed := s + 1) (sn := (((sn.add 6).add 44).add 16).add 1)
  exact ⟨m', (((hm.step' (st_yes_start (f := { wait := .nextStart, pc := 5, pos := s, outermost := b }) rfl rfl) rfl).step' (st_success (show 9 < 10 by decide) rfl) rfl).step' (st_lit_yes (show 7 < 10 by decide) rfl hs h.2) rfl).step'
    (st_at_yes (show 5 < 10 by decide) rfl rfl h.1) rfl, h1, h2, h3⟩

theorem r1_next {text : Array Nat} {lim s : Nat} {b : Bool} {pc : Nat} {sn : Seen} (hs : s < lim) :
    (St code1 text lim s b [{ wait := .nextStart, pc := 5, pos := s, outermost := b }] 1 pc s s (some false) sn).step = R1 text lim (s + 1) false sn := by
  refine (step_resume (m := St code1 text lim s b [{ wait := .nextStart, pc := 5, pos := s, outermost := b }] 1 pc s s (some false) sn) rfl rfl rfl rfl).trans ?_
  exact (resume_start_no rfl).trans ((if_pos (by exact hs)).trans rfl)
theorem r1_stop {text : Array Nat} {lim s : Nat} {b : Bool} {pc : Nat} {sn : Seen} (hs : lim ≤ s) :
    (St code1 text lim s b [{ wait := .nextStart, pc := 5, pos := s, outermost := b }] 1 pc s s (some false) sn).step = St code1 text lim s b [] 0 5 s s (some false) sn := by
  refine (step_resume (m := St code1 text lim s b [{ wait := .nextStart, pc := 5, pos := s, outermost := b }] 1 pc s s (some false) sn) rfl rfl rfl rfl).trans ?_
  exact (resume_start_no rfl).trans ((if_neg (Nat.not_lt.mpr (by exact hs))).trans rfl)

theorem r1_run {text : Array Nat} {lim : Nat} : ∀ (k s : Nat) (b : Bool) (sn : Seen), lim = s + k →
    ∃ m', Ends (3 * k + 5) (R1 text lim s b sn) m' ∧ (match find1 text k s with
      | some p => m'.outcome = some .matched ∧ m'.start = p ∧ m'.handed = p + 1
      | none => m'.outcome = some .failed)
  | 0, s, b, sn, hl => by
    obtain ⟨sn', k, pc, hk, h⟩ := r1_fail (text := text) (lim := lim) (s := s) (b := b) (sn := sn) (.inr (by omega))
    obtain ⟨m', hm, ho⟩ := st_ends_no (code := code1) (text := text) (lim := lim) (start := s) (b := b) (weight := 0) (pc := 5) (pos := s) (handed := s) (sn := sn')
    exact ⟨m', (h m' _ (hm.step' (r1_stop (by omega)) rfl)).le (by omega), ho⟩
  | k + 1, s, b, sn, hl => by
    cases ha : at1 text s with
    | true =>
      obtain ⟨m', hm, h1, h2, h3⟩ := r1_match (lim := lim) (b := b) (sn := sn) ha (by omega)
      refine ⟨m', hm.le (by omega), ?_⟩
      rw [find1, ha]; exact ⟨h1, h2, h3⟩
    | false =>
      obtain ⟨sn', j, pc, hj, h⟩ := r1_fail (text := text) (lim := lim) (s := s) (b := b) (sn := sn) (.inl ha)
      obtain ⟨m', hm, ho⟩ := r1_run (text := text) (lim := lim) k (s + 1) false sn' (by omega)
      refine ⟨m', (h m' _ (hm.step' (r1_next (by omega)) rfl)).le (by omega), ?_⟩
      rw [find1, ha]; exact ho

theorem search1 {text : Array Nat} (s : Nat) (hs : s ≤ text.size) :
    ∃ m', Ends (3 * text.size + 5) (Sre.forSearch code1 text 0 s text.size false) m' ∧ (match find1 text (text.size - s) s with
      | some p => m'.outcome = some .matched ∧ m'.start = p ∧ m'.handed = p + 1
      | none => m'.outcome = some .failed) := by
  by_cases h : s = text.size
  · subst h
    have e : Sre.forSearch code1 text 0 text.size text.size false = { St code1 text text.size text.size true [] 0 5 text.size text.size (some false) (({} : Seen).add 14) with lastStart := 0 } := by
      unfold Sre.forSearch
      refine if_pos ?_
      show (decide (text.size > text.size) || decide (text.size - text.size < 1)) = true
      simp
    rw [e]
    rw [Nat.sub_self]
    refine ⟨{ St code1 text text.size text.size true [] 0 5 text.size text.size (some false) (({} : Seen).add 14) with lastStart := 0, outcome := some .failed }, (?_ : Ends 1 _ _).le (by omega), rfl⟩
    exact (show Ends 0 _ _ from ⟨rfl, rfl⟩).step' (step_last (b := false) rfl rfl rfl) rfl
  · have e : Sre.forSearch code1 text 0 s text.size false = R1 text text.size s true (({} : Seen).add 14) := by
      unfold Sre.forSearch
      refine (if_neg ?_).trans ?_
      · show ¬ ((decide (s > text.size) || decide (text.size - s < 1)) = true)
        simp; omega
      · rfl
    rw [e]
    obtain ⟨m', hm, ho⟩ := r1_run (text := text) (lim := text.size) (text.size - s) s true (({} : Seen).add 14) (by omega)
    exact ⟨m', hm.le (by omega), ho⟩

-- the second pattern: (?:\r\n|\n|\r(?!\n))
def code2 : Array Nat := #[14, 9, 4, 1, 2, 16, 10, 16, 13, 0, 7, 7, 16, 13, 16, 10, 15, 18, 5, 16, 10, 15, 13, 11, 16, 13, 5, 5, 0, 16, 10, 1, 15, 2, 0, 1]

def R2 (text : Array Nat) (lim s : Nat) (b : Bool) (sn : Seen) : M :=
  St code2 text lim s b [{ wait := .nextStart, pc := 10, pos := s, outermost := b }] 1 10 s s none sn

def at2 (text : Array Nat) (s : Nat) : Bool := text.getD s 0 == 10 || text.getD s 0 == 13
def find2 (text : Array Nat) : Nat → Nat → Option Nat
  | 0, _ => none
  | k + 1, s => if at2 text s then some s else find2 text k (s + 1)
def end2 (text : Array Nat) (p : Nat) : Nat := if text.getD p 0 = 13 ∧ text.getD (p + 1) 0 = 10 then p + 2 else p + 1

theorem inSet2 (c : Nat) (sn : Seen) : ∃ sn', Sre.inSet code2 c 36 5 true sn = .ok (c == 10 || c == 13, sn') := by
  have e1 : Sre.inSet code2 c 36 5 true sn = if (c == 10) = true then .ok (true, sn.add 16) else Sre.inSet code2 c 35 7 true (sn.add 16) := rfl
  have e2 : Sre.inSet code2 c 35 7 true (sn.add 16) = if (c == 13) = true then .ok (true, (sn.add 16).add 16) else Sre.inSet code2 c 34 9 true ((sn.add 16).add 16) := rfl
  have e3 : Sre.inSet code2 c 34 9 true ((sn.add 16).add 16) = .ok (false, ((sn.add 16).add 16).add 0) := rfl
  rw [e1, e2, e3]
  cases h1 : c == 10 with
  | true => exact ⟨_, rfl⟩
  | false =>
    cases h2 : c == 13 with
    | true => exact ⟨_, rfl⟩
    | false => exact ⟨_, rfl⟩

theorem admitted2 {m : M} {text : Array Nat} (hc : m.code = code2) (ht : m.text = text) : ∀ (k s : Nat) (sn : Seen), m.lim = s + k → ∃ sn', M.admitted m (k + 1) s sn = .ok (find2 text k s, sn')
  | 0, s, sn, hl => ⟨sn, by unfold M.admitted; rw [if_pos (by omega)]; rfl⟩
  | k + 1, s, sn, hl => by
    obtain ⟨sn', h⟩ := inSet2 (text.getD s 0) sn
    unfold M.admitted
    rw [if_neg (by omega), hc, ht, show code2.size = 36 from rfl, h]
    cases ha : (text.getD s 0 == 10 || text.getD s 0 == 13) with
    | true => exact ⟨sn', by rw [find2, at2, ha]; rfl⟩
    | false =>
      obtain ⟨sn'', h''⟩ := admitted2 hc ht k (s + 1) sn' (by omega)
      refine ⟨sn'', ?_⟩
      show M.admitted m (k + 1) (s + 1) sn' = _
      rw [h'', find2, at2, ha]; rfl

theorem r2_match {text : Array Nat} {lim s : Nat} {b : Bool} {sn : Seen} (h : at2 text s = true) (hs : s < lim) (hlim : lim = text.size) :
    ∃ m', Ends 16 (R2 text lim s b sn) m' ∧ m'.outcome = some .matched ∧ m'.start = s ∧ m'.handed = end2 text s := by
  unfold at2 at h
  simp only [Bool.or_eq_true, beq_iff_eq] at h
  by_cases h10 : text.getD s 0 = 10
  · obtain ⟨m', hm, h1, h2, h3⟩ := st_ends_yes (code := code2) (text := text) (lim := lim) (start := s) (b := b) (weight := 0) (pc := 10) (pos := s) (handed := s + 1) (sn := (((((sn.add 7).add 16).add 16).add 15).add 1))
    refine ⟨m', ((?_ : Ends 9 (R2 text lim s b sn) m')).le (by decide), h1, h2, h3.trans ?_⟩
    · exact (((((((hm.step' (st_yes_start (f := { wait := .nextStart, pc := 10, pos := s, outermost := b }) rfl rfl) rfl).step'
        (st_yes_branch (f := { wait := .nextBranch, pc := 18, pos := s, outermost := b }) rfl rfl) rfl).step'
        (st_success (code := code2) (pc := 35) (show 35 < 36 by decide) rfl) rfl).step' (st_jump (code := code2) (pc := 21) (show 21 < 36 by decide) rfl) rfl).step' (st_lit_yes (code := code2) (pc := 19) (show 19 < 36 by decide) rfl hs h10) rfl).step'
        (st_no_branch (fpc := 11) rfl (by decide)) rfl).step' (st_lit_no (code := code2) (pc := 12) (show 12 < 36 by decide) rfl (.inr (by rw [h10]; decide))) rfl).step' (st_branch (code := code2) (pc := 10) (show 10 < 36 by decide) rfl rfl (by decide)) rfl
    · unfold end2; rw [if_neg (by rw [h10]; omega)]
  · have h13 : text.getD s 0 = 13 := h.resolve_left h10
    by_cases hn : text.getD (s + 1) 0 = 10
    · have hs1 : s + 1 < lim := by
        rw [hlim]
        apply Decidable.byContradiction
        intro hge
        rw [Array.getD_eq_getD_getElem?, Array.getElem?_eq_none (by omega)] at hn
        cases hn
      obtain ⟨m', hm, h1, h2, h3⟩ := st_ends_yes (code := code2) (text := text) (lim := lim) (start := s) (b := b) (weight := 0) (pc := 10) (pos := s) (handed := s + 1 + 1) (sn := (((((sn.add 7).add 16).add 16).add 15).add 1))
      refine ⟨m', ((?_ : Ends 8 (R2 text lim s b sn) m')).le (by decide), h1, h2, h3.trans ?_⟩
      · exact ((((((hm.step' (st_yes_start (f := { wait := .nextStart, pc := 10, pos := s, outermost := b }) rfl rfl) rfl).step'
          (st_yes_branch (f := { wait := .nextBranch, pc := 11, pos := s, outermost := b }) rfl rfl) rfl).step'
          (st_success (code := code2) (pc := 35) (show 35 < 36 by decide) rfl) rfl).step' (st_jump (code := code2) (pc := 16) (show 16 < 36 by decide) rfl) rfl).step' (st_lit_yes (code := code2) (pc := 14) (show 14 < 36 by decide) rfl hs1 hn) rfl).step'
          (st_lit_yes (code := code2) (pc := 12) (show 12 < 36 by decide) rfl hs h13) rfl).step' (st_branch (code := code2) (pc := 10) (show 10 < 36 by decide) rfl rfl (by decide)) rfl
      · unfold end2; rw [if_pos ⟨h13, hn⟩]
    · obtain ⟨m', hm, h1, h2, h3⟩ := st_ends_yes (code := code2) (text := text) (lim := lim) (start := s) (b := b) (weight := 0) (pc := 10) (pos := s) (handed := s + 1)
        (sn := ((((((((((sn.add 7).add 16).add 16).add 16).add 16)).add 5).add 16).add 15).add 1))
      refine ⟨m', ((?_ : Ends 15 (R2 text lim s b sn) m')).le (by decide), h1, h2, h3.trans ?_⟩
      · exact (((((((((((((hm.step' (st_yes_start (f := { wait := .nextStart, pc := 10, pos := s, outermost := b }) rfl rfl) rfl).step'
          (st_yes_branch (f := { wait := .nextBranch, pc := 23, pos := s, outermost := b }) rfl rfl) rfl).step'
          (st_success (code := code2) (pc := 35) (show 35 < 36 by decide) rfl) rfl).step' (st_jump (code := code2) (pc := 32) (show 32 < 36 by decide) rfl) rfl).step' (st_no_lookNot (fpc := 26)) rfl).step'
          (st_lit_no (code := code2) (pc := 29) (show 29 < 36 by decide) rfl (.inr hn)) rfl).step' (st_assertNot (code := code2) (pc := 26) (show 26 < 36 by decide) rfl rfl (by decide)) rfl).step'
          (st_lit_yes (code := code2) (pc := 24) (show 24 < 36 by decide) rfl hs h13) rfl).step' (st_no_branch (fpc := 18) rfl (by decide)) rfl).step'
          (st_lit_no (code := code2) (pc := 19) (show 19 < 36 by decide) rfl (.inr h10)) rfl).step' (st_no_branch (fpc := 11) rfl (by decide)) rfl).step'
          (st_lit_no (code := code2) (pc := 14) (show 14 < 36 by decide) rfl (.inr hn)) rfl).step' (st_lit_yes (code := code2) (pc := 12) (show 12 < 36 by decide) rfl hs h13) rfl).step'
          (st_branch (code := code2) (pc := 10) (show 10 < 36 by decide) rfl rfl (by decide)) rfl
      · unfold end2; rw [if_neg (fun q => hn q.2)]

theorem find2_some {text : Array Nat} : ∀ {k s p : Nat}, find2 text k s = some p → at2 text p = true ∧ s ≤ p ∧ p < s + k
  | 0, _, _, h => by cases h
  | k + 1, s, p, h => by
    rw [find2] at h
    split at h
    · rename_i ha; cases h; exact ⟨ha, Nat.le_refl _, by omega⟩
    · obtain ⟨a, b, c⟩ := find2_some h; exact ⟨a, by omega, by omega⟩
theorem find1_some {text : Array Nat} : ∀ {k s p : Nat}, find1 text k s = some p → at1 text p = true ∧ s ≤ p ∧ p < s + k
  | 0, _, _, h => by cases h
  | k + 1, s, p, h => by
    rw [find1] at h
    split at h
    · rename_i ha; cases h; exact ⟨ha, Nat.le_refl _, by omega⟩
    · obtain ⟨a, b, c⟩ := find1_some h; exact ⟨a, by omega, by omega⟩

/-- the machine ahead of the second pattern's search -/
def M2 (text : Array Nat) (s ls : Nat) : M :=
  { code := code2, text := text, lim := text.size, start := s, lastStart := ls, pc := 10, pos := s, handed := s, marks := #[], seen := ({} : Seen).add 14 }

theorem search2 {text : Array Nat} (s : Nat) (hs : s ≤ text.size) :
    ∃ m', Ends 16 (Sre.forSearch code2 text 0 s text.size false) m' ∧ (match find2 text (text.size - s) s with
      | some p => m'.outcome = some .matched ∧ m'.start = p ∧ m'.handed = end2 text p
      | none => m'.outcome = some .failed) := by
  by_cases h : s = text.size
  · subst h
    have e : Sre.forSearch code2 text 0 text.size text.size false = (M2 text text.size 0).say false := by
      unfold Sre.forSearch
      refine if_pos ?_
      show (decide (text.size > text.size) || decide (text.size - text.size < 1)) = true
      simp
    rw [e, Nat.sub_self]
    refine ⟨{ (M2 text text.size 0).say false with outcome := some .failed }, (?_ : Ends 1 _ _).le (by omega), rfl⟩
    exact (show Ends 0 _ _ from ⟨rfl, rfl⟩).step' (step_last (b := false) rfl rfl rfl) rfl
  · have e : Sre.forSearch code2 text 0 s text.size false = (M2 text s text.size).attemptFrom s true := by
      unfold Sre.forSearch
      refine (if_neg ?_).trans ?_
      · show ¬ ((decide (s > text.size) || decide (text.size - s < 1)) = true)
        simp; omega
      · rfl
    rw [e]
    obtain ⟨sn', ha⟩ := admitted2 (m := M2 text s text.size) (text := text) rfl rfl (text.size - s) s (M2 text s text.size).seen (show text.size = s + (text.size - s) by omega)
    have e2 : (M2 text s text.size).attemptFrom s true = match (Except.ok (find2 text (text.size - s) s, sn') : Except String (Option Nat × Seen)) with
      | .ok (some s', seen) => M.attemptAt { M2 text s text.size with mustAdvance := false, seen } s' true
      | .ok (none, seen) => ({ M2 text s text.size with seen } : M).say false
      | .error why => (M2 text s text.size).stick why := by
      rw [← ha, show text.size - s + 1 = (M2 text s text.size).lim + 1 - s from by show _ = text.size + 1 - s; omega]
      rfl
    rw [e2]
    cases hf : find2 text (text.size - s) s with
    | none =>
      refine ⟨{ ({ M2 text s text.size with seen := sn' } : M).say false with outcome := some .failed }, (?_ : Ends 1 _ _).le (by omega), rfl⟩
      exact (show Ends 0 _ _ from ⟨rfl, rfl⟩).step' (step_last (b := false) rfl rfl rfl) rfl
    | some p =>
      obtain ⟨h1, h2, h3⟩ := find2_some hf
      exact r2_match (text := text) (lim := text.size) (s := p) (b := true) (sn := sn') h1 (by omega) rfl
end
end Mine
-- SubF
namespace Mine
section
open PySem
theorem slot_sub : Slot "re.Pattern" "sub" "re.Pattern.sub" :=
  .of (owner := "re.Pattern") (n := "sub") (by rw [typeLookup_type, builtinLookup_eq_fast]; kernel_rfl) (by decide +kernel) (by decide +kernel) (by decide +kernel)
    (by first | exact .inl (by decide +kernel) | exact .inr (by decide +kernel)) (by rw [isSubtype_type]; kernel_rfl)
theorem type_sub : typeOf (.builtin "re.Pattern.sub") = pure (.type "method_descriptor") := by show builtinType _ = _; rw [builtinType_eq_fast]; kernel_rfl
theorem entry_sub : entryFor table "re.Pattern.sub" = some Builtin.«re.Pattern.sub» := entryFor_of_tree (by kernel_rfl)
theorem entry_loop : entryFor table "re.Pattern.sub.loop" = some Builtin.«re.Pattern.sub.loop» := entryFor_of_tree (by kernel_rfl)
theorem plainAttrs_pattern : PlainAttrs "re.Pattern" :=
  ⟨⟨"object.__getattribute__", by rw [typeLookup_type, builtinLookup_eq_fast]; kernel_rfl, by decide +kernel⟩, by rw [typeLookup_type, builtinLookup_eq_fast]; kernel_rfl⟩
theorem args_sub (a b c : Value) : argsOk "re.Pattern.sub" ⟨[a, b, c], []⟩ := by
  unfold argsOk
  kernel_rfl
end
end Mine
-- SubB
namespace Mine
section
open PySem PyProof.Rows
open Builtin Builtin.Re

section
variable {M : Model} {A : Around} {E : Value → Shared → Prop} {s : Shared}

theorem reDrive_wp {Q : Sre.M → Shared → Prop} : ∀ (turns k : Nat) (m m' : Sre.M), Ends k m m' → k < 4 * turns → Q m' s → wpAny M A (reDrive turns m) Q E s
  | 0, _, _, _, _, hk, _ => by omega
  | t + 1, k, m, m', he, hk, hq => by
    unfold reDrive
    cases hs : (m.runFor reTurnSteps).outcome.isSome with
    | true =>
      have e : m.runFor reTurnSteps = m' := by
        have h1 : m.runFor (k + 4) = m' := by rw [runFor_add, he.1, runFor_done _ _ he.2]
        rw [Nat.add_comm, runFor_add] at h1
        rw [← h1]
        exact (runFor_done _ _ hs).symm
      simp only [hs, if_true]
      rw [e]; exact wpAny_pure hq
    | false =>
      simp only [hs, Bool.false_eq_true, if_false]
      refine wpAny_bind (wpAny_rule ?_)
      have hk4 : 4 ≤ k := by
        apply Decidable.byContradiction
        intro h
        have h1 : m.runFor 4 = m' := by
          rw [show 4 = k + (4 - k) by omega, runFor_add, he.1, runFor_done _ _ he.2]
        have h2 : (m.runFor 4).outcome.isSome = true := by rw [h1]; exact he.2
        have h3 : (m.runFor 4).outcome.isSome = false := hs
        rw [h2] at h3; cases h3
      refine reDrive_wp t (k - 4) _ m' ⟨?_, he.2⟩ (by omega) hq
      have h1 := he.1
      rw [show k = 4 + (k - 4) by omega, runFor_add] at h1
      exact h1

theorem rules_wp {Q : Unit → Shared → Prop} (m : Sre.M) (l : List Nat) (h : Q () s) :
    wpAny M A (forIn l PUnit.unit fun i _ => do if m.seen.has i = true then (do rule (Sre.names.getD i ""); pure (ForInStep.yield PUnit.unit)) else pure (ForInStep.yield PUnit.unit)) Q E s := by
  induction l with
  | nil => exact wpAny_pure h
  | cons i l ih =>
    rw [List.forIn_cons]
    refine wpAny_bind ?_
    cases m.seen.has i with
    | true => exact wpAny_bind (wpAny_rule (wpAny_pure ih))
    | false => exact wpAny_pure ih

theorem reRunToEnd_wp {Q : Option Sre.M → Shared → Prop} {k : Nat} {m m' : Sre.M} (he : Ends k m m') (hk : k < 2 ^ 26)
    (h : (m'.outcome = some .matched → Q (some m') s) ∧ (m'.outcome = some .failed → Q none s)) (ho : m'.outcome = some .matched ∨ m'.outcome = some .failed) : wpAny M A (reRunToEnd m) Q E s := by
  unfold reRunToEnd
  refine wpAny_bind (reDrive_wp (2 ^ 64) k m m' he (by omega) ?_)
  refine wpAny_bind (wpAny_mono (Q := fun _ s' => s' = s) (rules_wp m' _ rfl) (fun _ s' hs => ?_) fun _ _ x => x)
  subst hs
  rcases ho with ho | ho
  · rw [ho]; exact wpAny_pure (h.1 ho)
  · rw [ho]; exact wpAny_pure (h.2 ho)
end

/-- a compiled pattern of no groups, over texts, with this code -/
structure PatAt (h : Heap) (pat ct : Addr) (code : Array Nat) : Prop where
  typ : ∃ op fs, h.get? pat = some op ∧ op.cls = .type "re.Pattern" ∧ op.dict = none ∧ op.data = .fields fs ∧ fs.getD 5 .none = .ref ct ∧ (∃ t, fs.getD 2 .none = .int 0 t) ∧ ∃ t, fs.getD 6 .none = .int 0 t
  words : ∃ oc cv n, h.get? ct = some oc ∧ oc.data = .seq cv n ∧ ((cv.map reRawOf).map (·.toNat)) = code
theorem PatAt.keeps {h h' : Heap} {pat ct : Addr} {code : Array Nat} (P : PatAt h pat ct code) (k1 : ∀ o, h.get? pat = some o → h'.get? pat = some o) (k2 : ∀ o, h.get? ct = some o → h'.get? ct = some o) : PatAt h' pat ct code := by
  obtain ⟨⟨op, fs, h1, r⟩, oc, cv, n, h2, r2⟩ := P
  exact ⟨⟨op, fs, k1 _ h1, r⟩, oc, cv, n, k2 _ h2, r2⟩

/-- what a search finds, from each place on -/
def Srch (code : Array Nat) (fnd : Array Nat → Nat → Option (Nat × Nat)) : Prop :=
  ∀ (text : Array Nat) (d : Nat), text.size ≤ 1000000 → d ≤ text.size → ∃ k m', Ends k (Sre.forSearch code text 0 d text.size false) m' ∧ k < 2 ^ 26 ∧ (match fnd text d with
    | some (p, e) => m'.outcome = some .matched ∧ m'.start = p ∧ m'.handed = e ∧ d ≤ p ∧ p < e ∧ e ≤ text.size
    | none => m'.outcome = some .failed)

def subT (fnd : Array Nat → Nat → Option (Nat × Nat)) (repl : List Nat) (text : Array Nat) : Nat → Nat → List Nat
  | 0, _ => []
  | k + 1, d => match fnd text d with
    | some (p, e) => (text.extract d p).toList ++ repl ++ subT fnd repl text k e
    | none => (text.extract d text.size).toList

section
variable {prog : Program} {w : World} {A : Around} {E : Value → Shared → Prop} {s : Shared}

theorem wholeTarget_wp {M : Model} {pat ct : Addr} {code : Array Nat} {x : Str} {t : Tok} {Q : ReTarget → Shared → Prop} (P : PatAt s.heap pat ct code)
    (h : Q { pattern := .ref pat, string := .str x t, code := code, text := x.cps, kind := 0, groups := 0, pos := 0, lim := x.cps.size } s) : wpAny M A (reWholeTarget (.ref pat) (.str x t)) Q E s := by
  obtain ⟨⟨op, fs, h1, _, _, hd, h5, ⟨t2, h2⟩, ⟨t6, h6⟩⟩, oc, cv, n, hc, hcd, hcode⟩ := P
  unfold reWholeTarget
  refine wpAny_bind ?_
  show wpAny M A (do match (← load pat).data with | .fields vs => pure vs | _ => unsupported "internal:no-fields") _ _ _
  refine wpAny_bind (wpAny_load h1 ?_)
  rw [hd]
  refine wpAny_pure ?_
  refine wpAny_bind ?_
  show wpAny M A (pure (x.cps, 0)) _ _ _
  refine wpAny_pure ?_
  dsimp only
  rw [h6, h5, h2]
  show wpAny M A (reRawItems (.ref ct) >>= _) _ _ _
  refine wpAny_bind ?_
  unfold reRawItems
  refine wpAny_bind ?_
  show wpAny M A (do match (← load ct).data with | .seq xs _ => pure (some xs) | _ => pure none) _ _ _
  refine wpAny_bind (wpAny_load hc ?_)
  rw [hcd]
  refine wpAny_pure (wpAny_pure (wpAny_pure ?_))
  show Q { pattern := .ref pat, string := .str x t, code := (cv.map reRawOf).map (·.toNat), text := x.cps, kind := 0, groups := 0, pos := 0, lim := x.cps.size } s
  rw [hcode]; exact h

theorem push_wp {M : Model} {l : Addr} {items : Array Value} {x : Value} {Q : Unit → Shared → Prop} (hl : s.heap.IsList l items)
    (hQ : ∀ h', h'.IsList l (items.push x) → Heap.SameBut l s.heap h' → Q () { s with heap := h' }) (hsz : items.size ≤ sizeLine) :
    wpAny M A (updateSeq l (·.push x)) Q E s := by
  obtain ⟨o, ho, hc, n, hd⟩ := id hl
  obtain ⟨n', hd'⟩ := Obj.data_mapSeq hd (·.push x)
  refine wpAny_updateSeq ho hd (hQ _ ?_ (Heap.SameBut.update ..)) hsz (by show (items.push x).size ≤ _; rw [Array.size_push]; omega)
  exact ⟨_, Heap.get?_update_self _ ho (Obj.isFreed_of_seq hd'), (Obj.cls_mapSeq ..).trans hc, n', hd'⟩

def cat (ys : List Str) : List Nat := (ys.map (·.cps.toList)).flatten
theorem cat_append (a b : List Str) : cat (a ++ b) = cat a ++ cat b := by simp [cat]
theorem cat_one (x : Str) : cat [x] = x.cps.toList := by simp [cat]
theorem join_empty (sep : Str) (hs : sep.cps = #[]) : ∀ ys : List Str, (Str.join sep ys).cps.toList = cat ys
  | [] => rfl
  | [x] => by simp [cat, Str.join]
  | x :: y :: r => by
    show ((x ++ sep) ++ Str.join sep (y :: r)).cps.toList = _
    rw [Str.cps_append, Str.cps_append, hs, Array.toList_append, join_empty sep hs (y :: r)]
    simp [cat]
theorem txtJoin_empty (sep : Str) (hs : sep.cps = #[]) (ys : List Str) : Txt.join sep ys = ⟨(cat ys).toArray⟩ := by
  unfold Txt.join
  rw [StrLaws.glued_eq_join]
  apply Str.ext'
  rw [← join_empty sep hs ys]

def loopArgs (pat lst : Addr) (x repl : Str) (t tr : Tok) (n d : Int) : Args :=
  ⟨[.ref pat, .str x t, .str repl tr, rawInt 0, rawInt 0, rawInt n, rawInt d, rawInt d, .bool false, .ref lst, .bool false], []⟩

theorem sub_loop {pat ct lst : Addr} {code : Array Nat} {fnd : Array Nat → Nat → Option (Nat × Nat)} {x repl : Str} {t tr : Tok} {R : Result → Shared → Prop}
    (hS : Srch code fnd) (hx : x.length ≤ 1000000) (hr : repl.length ≤ 2) (hpl : pat ≠ lst) (hcl : ct ≠ lst) :
    ∀ (fuel d : Nat) (n : Int) (s : Shared) (items : Array Value) (ys : List Str), x.length < d + fuel → d ≤ x.length → PatAt s.heap pat ct code → s.heap.IsList lst items → StrsAre items.toList ys →
      (ys.map (·.length)).sum ≤ 3 * d → ys.length ≤ 2 * d →
      (∀ h' tk t', (∀ b o, b ≠ lst → s.heap.get? b = some o → h'.get? b = some o) → R (.ok (.ret (.str ⟨(cat ys ++ subT fnd repl.cps.toList x.cps fuel d).toArray⟩ t'))) { s with heap := h', toks := tk }) →
      codeAny (model prog w) A (.builtin "re.Pattern.sub.loop" (loopArgs pat lst x repl t tr n d)) R s
  | 0, d, n, s, items, ys, hf, hd, hP, hl, hi, hsum, hlen, hR => by omega
  | fuel + 1, d, n, s, items, ys, hf, hd, hP, hl, hi, hsum, hlen, hR => by
    have hxs : x.cps.size = x.length := rfl
    have hsl : sizeLine = 16777216 := sizeLine_eq
    refine codeAny_builtin entry_loop ?_
    rw [Around.under_plainId (by decide +kernel)]
    unfold Builtin.«re.Pattern.sub.loop» loopArgs
    dsimp only [rawInt]
    refine wpAny_bind (wholeTarget_wp hP ?_)
    show wpAny _ _ (reLiteralCannotBeTurned (.str repl tr) >>= _) _ _ _
    refine wpAny_bind ?_
    show wpAny _ _ (pure ()) _ _ _
    refine wpAny_pure ?_
    dsimp only
    simp only [bne_self_eq_false, Bool.false_and, Bool.false_eq_true, if_false, Int.toNat_natCast, beq_self_eq_true, if_true]
    obtain ⟨k, m', he, hk, hm⟩ := hS x.cps d (by omega) hd
    unfold reNextFound
    refine wpAny_bind (reRunToEnd_wp he hk ⟨fun ho => ?_, fun ho => ?_⟩ ?_)
    · -- found
      cases hfd : fnd x.cps d with
      | none => rw [hfd] at hm; rw [hm] at ho; cases ho
      | some pe =>
        obtain ⟨p, e⟩ := pe
        rw [hfd] at hm
        obtain ⟨_, hst, hha, hdp, hpe, hes⟩ := hm
        dsimp only
        rw [hst, hha]
        have hmust : (e == p) = false := by simp; omega
        have htail : ∀ (s₁ : Shared) (items₁ : Array Value) (ys₁ : List Str), s₁.heap.IsList lst items₁ → StrsAre items₁.toList ys₁ → (ys₁.map (·.length)).sum ≤ 3 * d + (p - d) → ys₁.length ≤ 2 * d + 1 →
            cat ys₁ = cat ys ++ (x.cps.extract d p).toList → (∀ b o, b ≠ lst → s.heap.get? b = some o → s₁.heap.get? b = some o) → (∃ h₁ tk₁, s₁ = { s with heap := h₁, toks := tk₁ }) →
            wpAny (model prog w) A.in1 (do
              let item ← pure (Value.str repl tr)
              if (item != Value.none) = true then do
                updateSeq lst fun x => x.push item
                again (Code.builtin "re.Pattern.sub.loop" { pos := [Value.ref pat, Value.str x t, Value.str repl tr, Value.int 0 0, Value.int 0 0, Value.int (n + 1) 0, Value.int (↑e) 0, Value.int (↑e) 0, Value.bool (e == p), Value.ref lst, Value.bool false] })
              else
                again (Code.builtin "re.Pattern.sub.loop" { pos := [Value.ref pat, Value.str x t, Value.str repl tr, Value.int 0 0, Value.int 0 0, Value.int (n + 1) 0, Value.int (↑e) 0, Value.int (↑e) 0, Value.bool (e == p), Value.ref lst, Value.bool false] }))
              (fun fin s' => match fin with | .done f => R (.ok f) s' | .again c' => c'.quiet = true ∧ codeAny (model prog w) A c' R s') (fun e s' => R (.error e) s') s₁ := by
          intro s₁ items₁ ys₁ hl₁ hi₁ hsum₁ hlen₁ hcat₁ hk₁ ⟨h₁, tk₁, hs₁⟩
          refine wpAny_bind (wpAny_pure ?_)
          have hb : ((Value.str repl tr != Value.none) = true) = True := by simp
          rw [if_pos (by rw [hb]; trivial)]
          have hsz : items₁.size ≤ sizeLine := by
            have := hi₁.len_eq
            rw [Array.length_toList] at this
            omega
          refine wpAny_bind (push_wp hl₁ (fun h₂ hl₂ hsb => wpAny_pure ⟨plainId_quiet (by decide +kernel) _, ?_⟩) hsz)
          rw [hmust]
          refine sub_loop hS hx hr hpl hcl fuel e (n + 1) { s₁ with heap := h₂ } (items₁.push (.str repl tr)) (ys₁ ++ [repl]) (by omega) hes ?_ hl₂ ?_ ?_ ?_ ?_
          · exact hP.keeps (fun o ho' => hsb.extBut _ _ hpl (hk₁ _ _ hpl ho')) (fun o ho' => hsb.extBut _ _ hcl (hk₁ _ _ hcl ho'))
          · rw [Array.toList_push]
            exact hi₁.append' (.cons repl tr .nil)
          · rw [List.map_append, List.sum_append]
            simp only [List.map_cons, List.map_nil, List.sum_cons, List.sum_nil]
            omega
          · rw [List.length_append, List.length_singleton]; omega
          · intro h' tk t' hk'
            have hR' := hR h' tk t' (fun b o hb e => hk' b o hb (hsb.extBut _ _ hb (hk₁ b o hb e)))
            rw [subT, hfd] at hR'
            rw [cat_append, hcat₁, cat_one]
            subst hs₁
            simpa only [List.append_assoc] using hR'
        by_cases hlt : d < p
        · rw [if_pos hlt]
          unfold reSlice
          simp only [beq_self_eq_true, if_true]
          have hel : (x.cps.extract d p).size = p - d := by rw [Array.size_extract]; omega
          refine wpAny_bind (wpAny_mkStr ?_ (by show (x.cps.extract d p).size ≤ _; omega))
          have hsz : items.size ≤ sizeLine := by
            have := hi.len_eq
            rw [Array.length_toList] at this
            omega
          refine wpAny_bind (push_wp hl (fun h₂ hl₂ hsb => ?_) hsz)
          refine htail _ (items.push (.str ⟨x.cps.extract d p⟩ s.toks)) (ys ++ [⟨x.cps.extract d p⟩]) hl₂ ?_ ?_ ?_ ?_ ?_ ⟨_, _, rfl⟩
          · rw [Array.toList_push]
            exact hi.append' (.cons _ _ .nil)
          · rw [List.map_append, List.sum_append]
            simp only [List.map_cons, List.map_nil, List.sum_cons, List.sum_nil]
            show _ + ((x.cps.extract d p).size + 0) ≤ _
            omega
          · rw [List.length_append, List.length_singleton]; omega
          · rw [cat_append, cat_one]
          · exact fun b o hb e => hsb.extBut _ _ hb e
        · rw [if_neg hlt]
          have hdp' : p = d := by omega
          refine htail s items ys hl hi (by omega) (by omega) ?_ (fun _ _ _ e => e) ⟨s.heap, s.toks, rfl⟩
          rw [hdp', Array.extract_eq_empty_of_le (by omega)]; simp
    · cases hfd : fnd x.cps d with
      | some pe => rw [hfd] at hm; rw [hm.1] at ho; cases ho
      | none =>
        dsimp only
        have hend : ∀ (s₁ : Shared) (items₁ : Array Value) (ys₁ : List Str), s₁.heap.IsList lst items₁ → StrsAre items₁.toList ys₁ → (ys₁.map (·.length)).sum ≤ 3 * x.length →
            cat ys₁ = cat ys ++ (x.cps.extract d x.cps.size).toList → (∀ b o, b ≠ lst → s.heap.get? b = some o → s₁.heap.get? b = some o) → (∃ h₁ tk₁, s₁ = { s with heap := h₁, toks := tk₁ }) →
            wpAny (model prog w) A.in1 (do
              let joiner ← reSlice x.cps 0 0 0
              let text ← if ((← seqItems? (Value.ref lst)).getD #[]).isEmpty = true then pure joiner else call (Value.builtin "str.join") [joiner, Value.ref lst]
              ret text)
              (fun fin s' => match fin with | .done f => R (.ok f) s' | .again c' => c'.quiet = true ∧ codeAny (model prog w) A c' R s') (fun e s' => R (.error e) s') s₁ := by
          intro s₁ items₁ ys₁ hl₁ hi₁ hsum₁ hcat₁ hk₁ ⟨h₁, tk₁, hs₁⟩
          obtain ⟨o, ho', hc', n', hd'⟩ := id hl₁
          refine wpAny_bind ?_
          unfold reSlice
          simp only [beq_self_eq_true, if_true]
          refine wpAny_mkStr ?_ (by show (x.cps.extract 0 0).size ≤ _; simp)
          have hemp : x.cps.extract 0 0 = #[] := by simp
          rw [hemp]
          have hR' : ∀ h' tk t', (∀ b o, b ≠ lst → s₁.heap.get? b = some o → h'.get? b = some o) → R (.ok (.ret (.str ⟨(cat ys₁).toArray⟩ t'))) { s with heap := h', toks := tk } := by
            intro h' tk t' hk'
            have hR' := hR h' tk t' (fun b o hb e => hk' b o hb (hk₁ b o hb e))
            rw [subT, hfd] at hR'
            rw [hcat₁]
            exact hR'
          refine wpAny_bind ?_
          show wpAny _ _ (do match (← load lst).data with | .seq xs _ => pure (some xs) | _ => pure none) _ _ _
          refine wpAny_bind (wpAny_load ho' ?_)
          rw [hd']
          refine wpAny_pure ?_
          show wpAny _ _ (if items₁.isEmpty = true then _ else _) _ _ _
          cases hem : items₁.isEmpty with
          | true =>
            rw [if_pos rfl]
            refine wpAny_bind (wpAny_pure (wpAny_pure ?_))
            have hnil : ys₁ = [] := by
              have e0 : items₁ = #[] := Array.isEmpty_iff.mp hem
              rw [e0] at hi₁
              cases hi₁; rfl
            subst hnil
            subst hs₁
            exact hR' h₁ (tk₁ + 1) tk₁ (fun _ _ _ e => e)
          | false =>
            rw [if_neg Bool.false_ne_true]
            refine wpAny_bind (join_list hl₁ hi₁ (by show (ys₁.map (·.length)).sum + ys₁.length * (#[] : Array Nat).size ≤ _; simp; omega) ?_)
            intro t' k'
            refine wpAny_pure ?_
            rw [txtJoin_empty _ rfl]
            subst hs₁
            exact hR' h₁ k' t' (fun _ _ _ e => e)
        by_cases hlt : d < x.cps.size
        · rw [if_pos hlt]
          refine wpAny_bind ?_
          unfold reSlice
          simp only [beq_self_eq_true, if_true]
          have hel : (x.cps.extract d x.cps.size).size = x.cps.size - d := by rw [Array.size_extract]; omega
          refine (wpAny_mkStr ?_ (by show (x.cps.extract d x.cps.size).size ≤ _; omega))
          have hsz : items.size ≤ sizeLine := by
            have := hi.len_eq
            rw [Array.length_toList] at this
            omega
          refine wpAny_bind (push_wp hl (fun h₂ hl₂ hsb => ?_) hsz)
          refine hend _ (items.push (.str ⟨x.cps.extract d x.cps.size⟩ s.toks)) (ys ++ [⟨x.cps.extract d x.cps.size⟩]) hl₂ ?_ ?_ ?_ ?_ ⟨_, _, rfl⟩
          · rw [Array.toList_push]
            exact hi.append' (.cons _ _ .nil)
          · rw [List.map_append, List.sum_append]
            simp only [List.map_cons, List.map_nil, List.sum_cons, List.sum_nil]
            show _ + ((x.cps.extract d x.cps.size).size + 0) ≤ _
            omega
          · rw [cat_append, cat_one]
          · exact fun b o hb e => hsb.extBut _ _ hb e
        · rw [if_neg hlt]
          refine hend s items ys hl hi (by omega) ?_ (fun _ _ _ e => e) ⟨s.heap, s.toks, rfl⟩
          rw [Array.extract_eq_empty_of_le (by omega)]; simp
    · cases hfd : fnd x.cps d with
      | some pe => rw [hfd] at hm; exact .inl hm.1
      | none => rw [hfd] at hm; exact .inr hm

theorem noCall_str : typeLookup (.type "str") "__call__" = pure none := by rw [typeLookup_type, builtinLookup_eq_fast]; kernel_rfl
theorem typeIs_pat {pat ct : Addr} {code : Array Nat} (P : PatAt s.heap pat ct code) : s.TypeIs (.ref pat) "re.Pattern" := by
  obtain ⟨⟨op, fs, h1, hc, _⟩, _⟩ := P
  exact ⟨op, h1, hc⟩

theorem sub_call {pat ct : Addr} {code : Array Nat} {fnd : Array Nat → Nat → Option (Nat × Nat)} {x repl : Str} {t tr : Tok} {Q : Value → Shared → Prop}
    (hS : Srch code fnd) (hx : x.length ≤ 1000000) (hr : repl.length ≤ 2) (hlit : repl.cps.contains 92 = false) (hP : PatAt s.heap pat ct code)
    (h : ∀ s' t', Keeps s s' → Q (.str ⟨(subT fnd repl.cps.toList x.cps (x.length + 1) 0).toArray⟩ t') s') :
    wpAny (model prog w) A (call (.builtin "re.Pattern.sub") [.ref pat, .str repl tr, .str x t]) Q E s := by
  refine wpAny_call (codeAny_call_builtin slot_sub.plain entry_sub (slot_sub.check _ _ _ _ _ _ _ _ (typeIs_pat hP) (args_sub _ _ _) ?_))
  unfold Builtin.«re.Pattern.sub» reSubstitute
  dsimp only
  refine wpAny_bind ?_
  refine wpAny_of_eq (a := [some (.str repl tr), some (.str x t), none]) rfl ?_
  dsimp only
  refine wpAny_bind (wpAny_pure ?_)
  refine wpAny_bind (wpAny_specialOf (typeIs_str _ _ _) noCall_str ?_)
  show wpAny _ _ (asStr? (.str repl tr) >>= _) _ _ _
  refine wpAny_bind (wpAny_pure ?_)
  dsimp only
  rw [hlit]
  show wpAny _ _ (holding [.str repl tr] (reWholeTarget (.ref pat) (.str x t)) >>= _) _ _ _
  refine wpAny_bind (wpAny_holding (wholeTarget_wp hP ?_))
  show wpAny _ _ (newList [] >>= _) _ _ _
  refine wpAny_bind (wpAny_newObj_type ?_)
  refine wpAny_pure ⟨plainId_quiet (by decide +kernel) _, ?_⟩
  have hpat : pat < s.heap.objs.size := by obtain ⟨⟨_, _, h1, _⟩, _⟩ := hP; exact Heap.lt_size h1
  have hct : ct < s.heap.objs.size := by obtain ⟨_, _, _, _, h1, _⟩ := hP; exact Heap.lt_size h1
  refine sub_loop hS hx hr (Nat.ne_of_lt hpat) (Nat.ne_of_lt hct) (x.length + 1) 0 0 _ #[] [] (by omega) (by omega) ?_ ?_ .nil (by simp) (by simp) ?_
  · exact hP.keeps (fun _ e => Heap.get?_push_of_some _ e) (fun _ e => Heap.get?_push_of_some _ e)
  · exact ⟨_, Heap.get?_push_size _ rfl, rfl, _, rfl⟩
  · intro h' tk t' hk
    exact h _ t' ⟨h', tk, rfl, fun b o e => hk b o (Nat.ne_of_lt (Heap.lt_size e)) (Heap.get?_push_of_some _ e)⟩
end
end
end Mine
-- SubC
namespace Mine
section
open PySem PyProof.Rows

def nf : Bool → List Nat → List Nat
  | _, [] => []
  | p, c :: t => if c = 13 then 13 :: 10 :: nf true t else if c = 10 then (if p = true then nf false t else 13 :: 10 :: nf false t) else c :: nf false t
def df : Bool → List Nat → List Nat
  | _, [] => []
  | b, c :: t => if b = true ∧ c = 46 then 46 :: 46 :: df false t else c :: df (c == 10) t

def fnd1 (text : Array Nat) (d : Nat) : Option (Nat × Nat) := (find1 text (text.size - d) d).map fun p => (p, p + 1)
def fnd2 (text : Array Nat) (d : Nat) : Option (Nat × Nat) := (find2 text (text.size - d) d).map fun p => (p, end2 text p)

theorem srch1 : Srch code1 fnd1 := fun text d hsz hd => by
  obtain ⟨m', he, hm⟩ := search1 (text := text) d hd
  refine ⟨_, m', he, by omega, ?_⟩
  unfold fnd1
  cases h : find1 text (text.size - d) d with
  | none => rw [h] at hm; exact hm
  | some p =>
    rw [h] at hm
    obtain ⟨h1, h2, h3⟩ := hm
    obtain ⟨_, a, b⟩ := find1_some h
    exact ⟨h1, h2, h3, a, by omega, by omega⟩

theorem getD_lt {text : Array Nat} {i c : Nat} (h : text.getD i 0 = c) (hc : c ≠ 0) : i < text.size := by
  apply Decidable.byContradiction
  intro hge
  rw [Array.getD_eq_getD_getElem?, Array.getElem?_eq_none (by omega)] at h
  exact hc h.symm

theorem srch2 : Srch code2 fnd2 := fun text d hsz hd => by
  obtain ⟨m', he, hm⟩ := search2 (text := text) d hd
  refine ⟨_, m', he, by omega, ?_⟩
  unfold fnd2
  cases h : find2 text (text.size - d) d with
  | none => rw [h] at hm; exact hm
  | some p =>
    rw [h] at hm
    obtain ⟨h1, h2, h3⟩ := hm
    obtain ⟨_, a, b⟩ := find2_some h
    refine ⟨h1, h2, h3, a, ?_, ?_⟩
    · unfold end2; split <;> omega
    · unfold end2
      split
      · rename_i hq
        have := getD_lt hq.2 (by decide); omega
      · omega

theorem toList_getD (text : Array Nat) (i : Nat) : text.getD i 0 = text.toList.getD i 0 := by
  rw [Array.getD_eq_getD_getElem?, List.getD_eq_getElem?_getD, Array.getElem?_toList]

theorem drop_cons {T : List Nat} {d : Nat} (h : d < T.length) : T.drop d = T.getD d 0 :: T.drop (d + 1) := by
  rw [List.drop_eq_getElem_cons h, List.getD_eq_getElem?_getD, List.getElem?_eq_getElem h]; rfl

theorem nf_head {l : List Nat} (h : l.getD 0 0 ≠ 10) : nf true l = nf false l := by
  cases l with
  | nil => rfl
  | cons c t =>
    have hc : c ≠ 10 := h
    simp [nf, hc]

theorem nf_found {text : Array Nat} : ∀ (k d : Nat), d + k = text.size → (match find2 text k d with
    | some p => nf false (text.toList.drop d) = (text.toList.drop d).take (p - d) ++ [13, 10] ++ nf false (text.toList.drop (end2 text p))
    | none => nf false (text.toList.drop d) = text.toList.drop d)
  | 0, d, h => by
    show nf false (text.toList.drop d) = text.toList.drop d
    rw [List.drop_eq_nil_of_le (by simp; omega)]; rfl
  | k + 1, d, h => by
    have hd : d < text.toList.length := by simp; omega
    have ih := nf_found (text := text) k (d + 1) (by omega)
    rw [find2]
    cases ha : at2 text d with
    | true =>
      rw [if_pos rfl]
      show _ = _
      unfold at2 at ha
      simp only [Bool.or_eq_true, beq_iff_eq] at ha
      rw [toList_getD] at ha
      rw [drop_cons hd, Nat.sub_self, List.take_zero, List.nil_append]
      unfold end2
      rw [toList_getD, toList_getD]
      by_cases h10 : text.toList.getD d 0 = 10
      · rw [h10, if_neg (by omega)]; simp [nf]
      · have h13 := ha.resolve_left h10
        rw [h13]
        by_cases hn : text.toList.getD (d + 1) 0 = 10
        · rw [if_pos ⟨rfl, hn⟩]
          have hd1 : d + 1 < text.toList.length := by
            apply Decidable.byContradiction
            intro hge
            rw [List.getD_eq_getElem?_getD, List.getElem?_eq_none (by omega)] at hn; cases hn
          rw [drop_cons hd1, hn]; simp [nf]
        · rw [if_neg (fun q => hn q.2)]
          have : nf true (text.toList.drop (d + 1)) = nf false (text.toList.drop (d + 1)) := nf_head (by
            rw [List.getD_eq_getElem?_getD, List.getElem?_drop, Nat.add_zero, ← List.getD_eq_getElem?_getD]; exact hn)
          simp [nf, this]
    | false =>
      rw [if_neg Bool.false_ne_true]
      unfold at2 at ha
      simp only [Bool.or_eq_false_iff, beq_eq_false_iff_ne] at ha
      rw [toList_getD] at ha
      cases hf : find2 text k (d + 1) with
      | none =>
        rw [hf] at ih
        show _ = _
        rw [drop_cons hd]
        simp only [nf, ha.1, ha.2, if_false]
        rw [ih]
      | some p =>
        rw [hf] at ih
        show _ = _
        obtain ⟨_, hp, _⟩ := find2_some hf
        rw [drop_cons hd, show p - d = (p - (d + 1)) + 1 by omega, List.take_succ_cons]
        simp only [nf, ha.1, ha.2, if_false]
        rw [ih]; rfl

theorem sub2_eq {text : Array Nat} : ∀ (fuel d : Nat), d ≤ text.size → text.size < d + fuel → subT fnd2 [13, 10] text fuel d = nf false (text.toList.drop d)
  | 0, d, h1, h2 => by omega
  | fuel + 1, d, h1, h2 => by
    have h := nf_found (text := text) (text.size - d) d (by omega)
    rw [subT]
    unfold fnd2
    cases hf : find2 text (text.size - d) d with
    | none =>
      rw [hf] at h
      show (text.extract d text.size).toList = _
      rw [Array.toList_extract, List.extract_eq_take_drop]
      rw [h, List.take_of_length_le (by simp)]
    | some p =>
      rw [hf] at h
      obtain ⟨_, hp, hp2⟩ := find2_some hf
      have he : d < end2 text p := by unfold end2; split <;> omega
      have he2 : end2 text p ≤ text.size := by
        unfold end2
        split
        · rename_i hq
          have := getD_lt hq.2 (by decide); omega
        · omega
      show (text.extract d p).toList ++ [13, 10] ++ subT fnd2 [13, 10] text fuel (end2 text p) = _
      rw [sub2_eq fuel (end2 text p) he2 (by omega), Array.toList_extract, List.extract_eq_take_drop]
      exact h.symm

def at0 (T : List Nat) (d : Nat) : Bool := d == 0 || T.getD (d - 1) 0 == 10

theorem df_found {text : Array Nat} : ∀ (k d : Nat), d + k = text.size → (match find1 text k d with
    | some p => df (at0 text.toList d) (text.toList.drop d) = (text.toList.drop d).take (p - d) ++ [46, 46] ++ df (at0 text.toList (p + 1)) (text.toList.drop (p + 1))
    | none => df (at0 text.toList d) (text.toList.drop d) = text.toList.drop d)
  | 0, d, h => by
    show df _ (text.toList.drop d) = text.toList.drop d
    rw [List.drop_eq_nil_of_le (by simp; omega)]; rfl
  | k + 1, d, h => by
    have hd : d < text.toList.length := by simp; omega
    have ih := df_found (text := text) k (d + 1) (by omega)
    have hnext : at0 text.toList (d + 1) = (text.toList.getD d 0 == 10) := by
      unfold at0; simp
    rw [find1]
    have hat : at1 text d = (at0 text.toList d && text.toList.getD d 0 == 46) := by
      unfold at1 at0; rw [toList_getD, toList_getD]
    cases ha : at1 text d with
    | true =>
      rw [if_pos rfl]
      show _ = _
      rw [hat] at ha
      simp only [Bool.and_eq_true, beq_iff_eq] at ha
      rw [drop_cons hd, Nat.sub_self, List.take_zero, List.nil_append, hnext, ha.1, ha.2]
      simp [df]
    | false =>
      rw [if_neg Bool.false_ne_true]
      rw [hat] at ha
      have hn : ¬ (at0 text.toList d = true ∧ text.toList.getD d 0 = 46) := fun q => by
        rw [q.1, q.2] at ha; cases ha
      cases hf : find1 text k (d + 1) with
      | none =>
        rw [hf] at ih
        show _ = _
        rw [hnext] at ih
        rw [drop_cons hd]
        simp only [df, hn, if_false]
        rw [ih]
      | some p =>
        rw [hf] at ih
        show _ = _
        rw [hnext] at ih
        obtain ⟨_, hp, _⟩ := find1_some hf
        rw [drop_cons hd, show p - d = (p - (d + 1)) + 1 by omega, List.take_succ_cons]
        simp only [df, hn, if_false]
        rw [ih]; rfl

theorem sub1_eq {text : Array Nat} : ∀ (fuel d : Nat), d ≤ text.size → text.size < d + fuel → subT fnd1 [46, 46] text fuel d = df (at0 text.toList d) (text.toList.drop d)
  | 0, d, h1, h2 => by omega
  | fuel + 1, d, h1, h2 => by
    have h := df_found (text := text) (text.size - d) d (by omega)
    rw [subT]
    unfold fnd1
    cases hf : find1 text (text.size - d) d with
    | none =>
      rw [hf] at h
      show (text.extract d text.size).toList = _
      rw [Array.toList_extract, List.extract_eq_take_drop]
      rw [h, List.take_of_length_le (by simp)]
    | some p =>
      rw [hf] at h
      obtain ⟨_, hp, hp2⟩ := find1_some hf
      show (text.extract d p).toList ++ [46, 46] ++ subT fnd1 [46, 46] text fuel (p + 1) = _
      rw [sub1_eq fuel (p + 1) (by omega) (by omega), Array.toList_extract, List.extract_eq_take_drop]
      exact h.symm

theorem sub2_all (x : Str) : subT fnd2 [13, 10] x.cps (x.length + 1) 0 = nf false x.cps.toList :=
  (sub2_eq (x.length + 1) 0 (Nat.zero_le _) (by show x.length < _; omega)).trans (by rw [List.drop_zero])
theorem sub1_all (x : Str) : subT fnd1 [46, 46] x.cps (x.length + 1) 0 = df true x.cps.toList :=
  (sub1_eq (x.length + 1) 0 (Nat.zero_le _) (by show x.length < _; omega)).trans (by rw [List.drop_zero]; rfl)
end
end Mine
-- Kit
namespace Mine
section
open PySem PySem.W PyProof.Rows

/-- what the top left, at any heap of the call -/
structure Wd (K : Frag) (mg mb : Str → Option Value) (h : Heap) : Prop where
  g : h.Ns mainGlobals mg
  b : h.Ns builtinsNs mb
  nolimit : h.NoLimit
  builtins : ∀ x : Str, x ≠ "__name__" → mb x = bootBuiltins x
  X : K.In h

theorem Wd.keeps {K : Frag} {mg mb : Str → Option Value} {h h' : Heap} (W : Wd K mg mb h) (k : ∀ b o, h.get? b = some o → h'.get? b = some o) : Wd K mg mb h' :=
  ⟨W.g.keeps k, W.b.keeps k, W.nolimit.keeps k, W.builtins, W.X.keeps k⟩

theorem kp_refl (s : Shared) : Keeps s s := ⟨s.heap, s.toks, rfl, fun _ _ e => e⟩
theorem kp_trans {s₁ s₂ s₃ : Shared} (a : Keeps s₁ s₂) (b : Keeps s₂ s₃) : Keeps s₁ s₃ := by
  obtain ⟨h, t, rfl, k⟩ := a
  obtain ⟨h', t', rfl, k'⟩ := b
  exact ⟨h', t', rfl, fun b o e => k' b o (k b o e)⟩
theorem kp_kept {s₁ s₂ : Shared} (a : Keeps s₁ s₂) : ∀ b o, s₁.heap.get? b = some o → s₂.heap.get? b = some o := by
  obtain ⟨h, t, rfl, k⟩ := a; exact k
theorem kp_toks (s : Shared) (t : Nat) : Keeps s { s with toks := t } := ⟨s.heap, t, rfl, fun _ _ e => e⟩

section
variable {M : Model} {A : Around} {E : Value → Shared → Prop} {s : Shared} {env : Env} {Q : Value → Shared → Prop}

theorem ldg {K : Frag} {mg mb : Str → Option Value} {x : Str} {pos : Pos} {v : Value} (W : Wd K mg mb s.heap) (e : nsIn K mainGlobals x = some (some v)) (h : Q v s)
    (hg : env.globals = mainGlobals := by rfl) (hk : env.scope.kind = .function := by rfl) (hx : env.kindOf x = some .globalImplicit := by rfl) (hd : (x == ("__debug__" : Str)) = false := by decide) :
    wpAny M A (eval (.Name x pos) env) Q E s :=
  Calls.Name_function_global hk hx (Calls.loadGlobal_global (hg ▸ W.g) (mg_of W.X W.g e) h) hd
theorem ldb {K : Frag} {mg mb : Str → Option Value} {x : Str} {pos : Pos} {v : Value} (W : Wd K mg mb s.heap) (e : nsIn K mainGlobals x = some none) (hv : bootBuiltins x = some v) (hn : x ≠ "__name__") (h : Q v s)
    (hg : env.globals = mainGlobals := by rfl) (hb : env.builtins = builtinsNs := by rfl) (hk : env.scope.kind = .function := by rfl) (hx : env.kindOf x = some .globalImplicit := by rfl) (hd : (x == ("__debug__" : Str)) = false := by decide) :
    wpAny M A (eval (.Name x pos) env) Q E s :=
  Calls.Name_function_global hk hx (Calls.loadGlobal_builtin (hg ▸ W.g) (mg_none_of W.X W.g e) (hb ▸ W.b) ((W.builtins x hn).trans hv) h) hd
/-- a local's value -/
theorem ldl {x : Str} {pos : Pos} {v : Value} {m : Str → Option Value} (hn : s.heap.Ns env.locals m) (hv : m x = some v) (h : Q v s)
    (hk : env.scope.kind = .function := by rfl) (hl : env.kindOf x = some .local := by rfl) (hd : (x == ("__debug__" : Str)) = false := by decide) :
    wpAny M A (eval (.Name x pos) env) Q E s := wpAny_Name (wpAny_loadName_local hk hl hn hv h) hd
end

section
variable {prog : Program} {w : World} {A : Around} {E : Value → Shared → Prop} {s : Shared} {env : Env} {Q : Value → Shared → Prop}

theorem Call_sub {o e₁ e₂ : Expr} {apos pos : Pos}
    (h : wpAny (model prog w) A (eval o env) (fun ov s₁ => ∃ pat ct code, ov = .ref pat ∧ PatAt s₁.heap pat ct code ∧
      wpAny (model prog w) A (eval e₁ env) (fun v₁ s₂ => wpAny (model prog w) A (eval e₂ env) (fun v₂ s₃ => wpAny (model prog w) A (call (.builtin "re.Pattern.sub") [.ref pat, v₁, v₂]) Q E s₃) E s₂) E s₁) E s)
    (hbase : attributeBase o "sub" env (eval o env) = eval o env := by rfl) (hs : starEach [e₁, e₂] env = [(false, eval e₁ env), (false, eval e₂ env)] := by rfl) (hline : (apos.endLine == pos.line) = true := by rfl) :
    wpAny (model prog w) A (eval (.Call (.Attribute o "sub" apos) [e₁, e₂] [] pos) env) Q E s := by
  refine Call_method2 hbase hs hline (wpAny_mono h (fun ov s₁ h₁ => ?_) fun _ _ x => x)
  obtain ⟨pat, ct, code, rfl, P, h₂⟩ := h₁
  refine ⟨"re.Pattern", "re.Pattern.sub", plainAttrs_pattern, slot_sub, type_sub, typeIs_pat P, ?_, ?_⟩
  · rintro a ha
    cases ha
    obtain ⟨⟨op, fs, h1, _, hd, _⟩, _⟩ := P
    exact ⟨op, h1, hd⟩
  · exact Calls.callWith_builtin rfl (Calls.evalArgs_plain (Calls.spliced_cons (wpAny_mono h₂ (fun _ _ h₃ => Calls.spliced_cons (wpAny_mono h₃ (fun _ _ h₄ => Calls.spliced_nil h₄) fun _ _ e => e)) fun _ _ e => e)))
end

def quoted (x : Str) : Str := ⟨(df true (nf false x.cps.toList)).toArray⟩

theorem nf_len : ∀ (b : Bool) (l : List Nat), (nf b l).length ≤ 2 * l.length
  | _, [] => Nat.le_refl _
  | b, c :: t => by
    have h1 := nf_len true t
    have h2 := nf_len false t
    rw [nf]
    split
    · simp only [List.length_cons]; omega
    · split
      · split
        · simp only [List.length_cons]; omega
        · simp only [List.length_cons]; omega
      · simp only [List.length_cons]; omega
theorem df_len : ∀ (b : Bool) (l : List Nat), (df b l).length ≤ 2 * l.length
  | _, [] => Nat.le_refl _
  | b, c :: t => by
    have h1 := df_len false t
    have h2 := df_len (c == 10) t
    rw [df]
    split
    · simp only [List.length_cons]; omega
    · simp only [List.length_cons]; omega
end
end Mine
-- Top_02
namespace Mine
section
open PySem PySem.W PyProof.Rows
set_option maxHeartbeats 8000000
open_top hd for PySem.Challenge.rw_pg0010_02
end
end Mine
-- Q02
namespace Mine
section
open PySem PySem.W PyProof.Rows
noncomputable abbrev KK (w : World) : Frag := hd.heap_39 w.params
abbrev PP : Program := PySem.Challenge.pw_pg0010_02

section
variable {w : World} {A : Around} {E : Value → Shared → Prop} {s : Shared} {mg mb : Str → Option Value}

theorem pat1 {h : Heap} (X : (KK w).In h) : PatAt h 43 42 code1 :=
  ⟨⟨_, _, X 43 _ rfl, rfl, rfl, rfl, rfl, ⟨_, rfl⟩, ⟨_, rfl⟩⟩, _, _, _, X 42 _ rfl, rfl, by decide +kernel⟩
theorem pat2 {h : Heap} (X : (KK w).In h) : PatAt h 48 47 code2 :=
  ⟨⟨_, _, X 48 _ rfl, rfl, rfl, rfl, rfl, ⟨_, rfl⟩, ⟨_, rfl⟩⟩, _, _, _, X 47 _ rfl, rfl, by decide +kernel⟩

theorem quote_spec {x : Str} {t : Tok} {R : Result → Shared → Prop} (W : Wd (KK w) mg mb s.heap) (hroom : A.depth < recursionLimit) (hx : x.length ≤ 400000)
    (h : ∀ s' t', Keeps s s' → R (.ok (.ret (.str (quoted x) t'))) s') :
    codeAny (model PP w) A (.call (.ref 55) ⟨[.str x t], []⟩) R s := by
  refine call_plain_ret hroom (W.X 55 _ rfl) rfl W.nolimit (codeRec_of W.X rfl) (binds := [("data", .str x t)]) ?_ ?_ (fun h₁ F => ?_)
  · rfl
  · exact locs rfl
  · refine wpAny_execs_cons (wpAny_Return_some ?_)
    have W₁ := W.keeps F.keep
    refine Call_sub (ldg W₁ rfl ⟨43, 42, code1, rfl, pat1 W₁.X, wpAny_Constant_str ?_⟩)
    refine Call_sub (ldg W₁ rfl ⟨48, 47, code2, rfl, pat2 W₁.X, ldg W₁ rfl (ldl F.ns rfl ?_)⟩)
    refine sub_call srch2 (by omega) (by decide) (by decide +kernel) (pat2 W₁.X) fun s₂ t₂ k₂ => ?_
    have W₂ := W₁.keeps (kp_kept k₂)
    have e2 : (Str.ofString "\x0d\n").cps.toList = [13, 10] := by decide +kernel
    have e1 : (Str.ofString "..").cps.toList = [46, 46] := by decide +kernel
    rw [e2, sub2_all]
    have l2 : (Str.mk (nf false x.cps.toList).toArray).length ≤ 1000000 := by
      have := nf_len false x.cps.toList
      show (nf false x.cps.toList).toArray.size ≤ _
      rw [List.size_toArray]
      have e : x.cps.toList.length = x.length := by simp [Str.length]
      omega
    refine sub_call srch1 l2 (by decide) (by decide +kernel) (pat1 W₂.X) fun s₃ t₃ k₃ => ?_
    rw [e1, sub1_all]
    refine h _ _ ?_
    refine kp_trans ?_ k₃
    refine kp_trans ?_ k₂
    exact ⟨h₁, _, rfl, F.keep⟩
end
end
end Mine
-- KitB
namespace Mine
section
open PySem PySem.W PyProof.Rows

def noSlice : Expr → Bool
  | .Slice .. => false
  | _ => true
theorem subs_plain {e : Expr} (h : noSlice e = true) (o i : Value) : subscripted e false o i = operate [o, i] (getItem o i) := by
  cases e <;> first | rfl | cases h

section
variable {prog : Program} {w : World} {A : Around} {E : Value → Shared → Prop} {s : Shared} {env : Env} {Q : Value → Shared → Prop}

/-- a text's method of one argument -/
theorem Call_str1 {o e : Expr} {name : Str} {id : String} {apos pos : Pos} (slot : Slot "str" name id) (ty : typeOf (.builtin id) = pure (.type "method_descriptor"))
    (h : wpAny (model prog w) A (eval o env) (fun ov s₁ => ∃ x t, ov = .str x t ∧ wpAny (model prog w) A (eval e env) (fun v s₂ => wpAny (model prog w) A (call (.builtin id) [.str x t, v]) Q E s₂) E s₁) E s)
    (hbase : attributeBase o name env (eval o env) = eval o env := by rfl) (hs : starEach [e] env = [(false, eval e env)] := by rfl) (hline : (apos.endLine == pos.line) = true := by rfl) :
    wpAny (model prog w) A (eval (.Call (.Attribute o name apos) [e] [] pos) env) Q E s := by
  refine Call_method1 hbase hs hline (wpAny_mono h (fun ov s₁ h₁ => ?_) fun _ _ x => x)
  obtain ⟨x, t, rfl, h₂⟩ := h₁
  exact ⟨"str", id, F.plainAttrs_str, slot, ty, typeIs_str _ _ _, (fun _ e => by cases e), Calls.callWith_builtin rfl (Calls.evalArgs_plain (Calls.spliced_cons (wpAny_mono h₂ (fun _ _ h₃ => Calls.spliced_nil h₃) fun _ _ e => e)))⟩

theorem join_call {x : Str} {t : Tok} {D : Addr} {items : Array Value} {ys : List Str} (hl : s.heap.IsList D items) (hi : StrsAre items.toList ys) (hok : (ys.map (·.length)).sum + ys.length * x.length ≤ 16777216)
    (h : ∀ s' t', Keeps s s' → Q (.str (Txt.join x ys) t') s') : wpAny (model prog w) A (call (.builtin "str.join") [.str x t, .ref D]) Q E s :=
  join_list hl hi hok fun t' k => h _ t' (kp_toks s k)

theorem parts_size {x y : Str} (hx : x.length ≤ 1000000) : (Builtin.Str.partsBetween x (Builtin.Str.occurrences x y 0 x.length (x.length + 1)) y.length).length ≤ x.length + 2 := by
  have h := StrLaws.occ_length_le x y 0 x.length (x.length + 1)
  unfold Builtin.Str.partsBetween
  simp only [List.length_map, List.length_zip, List.length_cons, List.length_append, List.length_nil]
  omega

open Builtin.Str in
theorem split_call {x y : Str} {t u : Tok} (hy : (y.length == 0) = false) (hx : x.length ≤ 1000000)
    (h : ∀ s' D items, Keeps s s' → s'.heap.IsList D items → StrsAre items.toList (Txt.split x y) → s.heap.get? D = none → Q (.ref D) s') :
    wpAny (model prog w) A (call (.builtin "str.split") [.str x t, .str y u]) Q E s := by
  have hsl : sizeLine = 16777216 := sizeLine_eq
  have hp := parts_size (x := x) (y := y) hx
  have fresh : s.heap.get? s.heap.objs.size = none := Heap.get?_none_of_le (Nat.le_refl _)
  have fin : ∀ (l : List (Str × Tok)) (k : Nat), l.map (·.1) = Txt.split x y → Q (.ref s.heap.objs.size) { s with toks := k, heap := s.heap.push { cls := .type "list", data := .seq (strValues l).toArray } } := by
    intro l k hl
    refine h _ _ _ ⟨_, k, rfl, fun b o e => Heap.get?_push_of_some _ e⟩ ⟨_, Heap.get?_push_size _ rfl, rfl, _, rfl⟩ ?_ fresh
    rw [← hl]
    simpa using strsAre_of_values l
  cases h1 : (decide (x.length < y.length) || decide (strKind x < strKind y)) with
  | true =>
    refine call_meets F.slot_str_split (typeIs_str _ _ _) F.entry_str_split (F.args_str_split_2 _ _) (meets_str_split_cannot_occur x y t u h1) ?_
    exact fin [(x, t)] s.toks (by unfold Txt.split; rw [if_pos h1]; rfl)
  | false =>
    cases hf : (occurrences x y 0 x.length (x.length + 1)).isEmpty with
    | true =>
      refine call_meets F.slot_str_split (typeIs_str _ _ _) F.entry_str_split (F.args_str_split_2 _ _) (meets_str_split_not_found x y t u h1 hy hf) ?_
      exact fin [(x, t)] s.toks (by unfold Txt.split; rw [if_neg (ne_true_of_eq_false h1), if_pos hf]; rfl)
    | false =>
      refine call_meets F.slot_str_split (typeIs_str _ _ _) F.entry_str_split (F.args_str_split_2 _ _) (meets_str_split_sep x y t u h1 hy hf (by omega) (by omega)) ?_
      show wants Q E _ { s with toks := _, heap := s.heap.push { cls := .type "list", data := .seq (strsFrom s.toks (partsBetween x (occurrences x y 0 x.length (x.length + 1)) y.length)).toArray } }
      rw [strsFrom_eq]
      exact fin (numbered s.toks _) _ ((numbered_texts _ _).trans (by unfold Txt.split; rw [if_neg (ne_true_of_eq_false h1), if_neg (ne_true_of_eq_false hf)]))

/-- a slice's new list -/
theorem list_slice {value : Expr} {lower upper : Option Expr} {p pos : Pos}
    (h : wpAny (model prog w) A (eval value env) (fun o s₁ => wpAny (model prog w) A (evalPart lower env) (fun vl s₂ => wpAny (model prog w) A (evalPart upper env) (fun vu s₃ =>
      ∃ l items lo hi, o = .ref l ∧ s₃.heap.IsList l items ∧ items.size ≤ sizeLine ∧ IsPart vl lo ∧ IsPart vu hi ∧
        ∀ s' D, Keeps s₃ s' → s'.heap.IsList D (slicePick items lo hi none) → s₃.heap.get? D = none → Q (.ref D) s') E s₂) E s₁) E s) :
    wpAny (model prog w) A (eval (.Subscript value (.Slice lower upper none p) pos) env) Q E s := by
  refine Subscript_ (wpAny_mono h (fun o s₁ h₁ => wpAny_Slice (wpAny_mono h₁ (fun vl s₂ h₂ => wpAny_mono h₂ (fun vu s₃ h₃ => ?_) fun _ _ e => e) fun _ _ e => e)) fun _ _ e => e)
  obtain ⟨l, items, lo, hi, rfl, hl, hsz, pl, pu, hQ⟩ := h₃
  rw [evalPart_none]
  refine wpAny_pure ?_
  refine tail_any (ops := [.ref s₃.heap.objs.size, .ref l]) (hl.push _).typeIs slot_list_getitem.lookup (wpAny_getItem_list_slice (hl.push _) (Heap.IsSliceOf.new ..) pl pu .none (by simp) ?_ hsz) rfl
  refine hQ _ _ ⟨_, _, rfl, fun b o e => Heap.get?_push_of_some _ (Heap.get?_push_of_some _ e)⟩ ⟨_, Heap.get?_push_size _ rfl, rfl, _, rfl⟩ ?_
  exact Heap.get?_none_of_le (by rw [Heap.size_push]; exact Nat.le_succ _)

theorem tuple_from {value e : Expr} {p pos : Pos}
    (h : wpAny (model prog w) A (eval value env) (fun o s₁ => wpAny (model prog w) A (eval e env) (fun vl s₂ => ∃ (t : Addr) (items : Array Value) (a : Nat) (u : Tok), o = .ref t ∧ vl = .int (a : Nat) u ∧ IsTup s₂.heap t items ∧ 1 ≤ a ∧ a ≤ items.size ∧ items.size ≤ sizeLine ∧
        ∀ s' D, Keeps s₂ s' → IsTup s'.heap D (items.toList.drop a).toArray → Q (.ref D) s') E s₁) E s) :
    wpAny (model prog w) A (eval (.Subscript value (.Slice (some e) none none p) pos) env) Q E s := by
  refine Subscript_ (wpAny_mono h (fun o s₁ h₁ => wpAny_Slice ?_) fun _ _ e => e)
  rw [evalPart_some]
  refine wpAny_mono h₁ (fun vl s₂ h₂ => ?_) fun _ _ e => e
  obtain ⟨t, items, a, u, rfl, rfl, ht, h1, h2, hsz, hQ⟩ := h₂
  rw [evalPart_none]
  refine wpAny_pure (wpAny_pure ?_)
  have ht' : IsTup (s₂.heap.push { cls := .type "slice", data := .fields #[.int a u, .none, .none] }) t items := ht.keeps fun _ _ e => Heap.get?_push_of_some _ e
  refine tail_any (ops := [.ref s₂.heap.objs.size, .ref t]) ht'.typeIs slot_tuple_getitem.lookup (getItem_tuple_from ht' (Heap.IsSliceOf.new ..) h1 h2 ?_ hsz) rfl
  exact hQ _ _ ⟨_, _, rfl, fun b o e => Heap.get?_push_of_some _ (Heap.get?_push_of_some _ e)⟩ ⟨_, Heap.get?_push_size _ rfl, rfl, _, rfl⟩

theorem tuple_item {value e : Expr} {pos : Pos}
    (h : wpAny (model prog w) A (eval value env) (fun o s₁ => wpAny (model prog w) A (eval e env) (fun i s₂ => ∃ (t : Addr) (items : Array Value) (k : Nat) (u : Tok) (x : Value), o = .ref t ∧ i = .int (k : Nat) u ∧ IsTup s₂.heap t items ∧ items.size ≤ sizeLine ∧ items[k]? = some x ∧ Q x s₂) E s₁) E s)
    (hs : noSlice e = true := by rfl) :
    wpAny (model prog w) A (eval (.Subscript value e pos) env) Q E s := by
  refine Subscript_ (wpAny_mono h (fun o s₁ h₁ => wpAny_mono h₁ (fun i s₂ h₂ => ?_) fun _ _ e => e) fun _ _ e => e)
  obtain ⟨t, items, k, u, x, rfl, rfl, ht, hsz, hx, hQ⟩ := h₂
  have hk : k < items.size := (Array.getElem?_eq_some_iff.mp hx).1
  have hsl : sizeLine = 16777216 := sizeLine_eq
  refine tail_any (ops := [.ref t, .int k u]) ht.typeIs slot_tuple_getitem.lookup (getItem_tuple (j := k) ht (by omega) (by omega) ?_ hx hQ) (subs_plain hs _ _)
  unfold seqIndex?
  simp
  omega

theorem list_item {value e : Expr} {pos : Pos}
    (h : wpAny (model prog w) A (eval value env) (fun o s₁ => wpAny (model prog w) A (eval e env) (fun i s₂ => ∃ (t : Addr) (items : Array Value) (k : Int) (u : Tok) (x : Value), o = .ref t ∧ i = .int k u ∧ s₂.heap.IsList t items ∧ items.size ≤ sizeLine ∧ 0 ≤ k ∧ items[k.toNat]? = some x ∧ Q x s₂) E s₁) E s)
    (hs : noSlice e = true := by rfl) :
    wpAny (model prog w) A (eval (.Subscript value e pos) env) Q E s := by
  refine Subscript_ (wpAny_mono h (fun o s₁ h₁ => wpAny_mono h₁ (fun i s₂ h₂ => ?_) fun _ _ e => e) fun _ _ e => e)
  obtain ⟨t, items, k, u, x, rfl, rfl, ht, hsz, h0, hx, hQ⟩ := h₂
  have hk : k.toNat < items.size := (Array.getElem?_eq_some_iff.mp hx).1
  have hsl : sizeLine = 16777216 := sizeLine_eq
  exact tail_any (ops := [.ref t, .int k u]) ht.typeIs slot_list_getitem.lookup (wpAny_getItem_list ht h0 (by omega) hx hQ) (subs_plain hs _ _)
end

/-- a def with a star, its star's tuple -/
theorem call_star_ret {prog : Program} {w : World} {A : Around} {R : Result → Shared → Prop} {s : Shared} {name : Str} {params : Arguments} {body : List Stmt} {scope : Scope}
    {pm cd doc : Value} {a : Addr} {o : Obj} {args vs : List Value} {binds : Value → List (Str × Value)}
    (hroom : A.depth < recursionLimit) (ho : s.heap.get? a = some o) (hdata : o.data = .func (Calls.docDef name params body scope pm cd doc)) (hlim : s.heap.NoLimit) (hcd : s.heap.CodeRec cd name)
    (hbind : bindArgs (Calls.docDef name params body scope pm cd doc) ⟨args, []⟩ = (do let t ← newTuple vs; pure (binds t)))
    (hloc : ∀ t, ∀ x ∈ binds t, scope.names.lookup x.1 = some .local) (hvs : vs.length ≤ sizeLine)
    (h : ∀ L T s₁, Fr s.heap L s₁.heap (fun x => (binds (.ref T)).reverse.lookup x) → IsTup s₁.heap T vs.toArray → (∃ h₁ tk, s₁ = { s with heap := h₁, toks := tk }) →
      wpAny (model prog w) (A.deeper (envOf name scope L a cd)) (execs body (envOf name scope L a cd))
        (fun f s' => R (.ok (.ret (match f with | .ret v => v | _ => .none))) s') (fun _ _ => False) s₁)
    (hco : scope.isCoroutine = false := by rfl) (hgen : scope.isGenerator = false := by rfl) (hk : scope.kind = .function := by rfl)
    (hcell : ∀ x ∈ scope.names, x.2 ≠ .cell := by decide) :
    codeAny (model prog w) A (.call (.ref a) ⟨args, []⟩) R s := by
  refine codeAny_call_function hroom ho hdata hco hgen rfl hcd ?_
  rw [hbind]
  refine wpAny_bind (wpAny_newObj_type (wpAny_pure ?_) (by show vs.toArray.size ≤ sizeLine; rw [List.size_toArray]; exact hvs))
  refine wpAny_newFunctionEnv hcell (hloc _) (fun h₁ hns hsb => ⟨?_, ?_⟩) hk
  · exact (hlim.keeps fun b o e => Heap.get?_push_of_some _ e).fresh _ hsb
  · show codeAny _ _ (.func body (envOf name scope (s.heap.push { cls := .type "tuple", data := .seq vs.toArray }).objs.size a cd)) _ _
    have hlt : s.heap.objs.size < (s.heap.push { cls := .type "tuple", data := .seq vs.toArray }).objs.size := by rw [Heap.size_push]; exact Nat.lt_succ_self _
    refine codeAny_func (wpAny_mono (h _ _ _ ⟨hns, fun b o e => ?_, Nat.le_of_lt hlt⟩ ?_ ⟨_, _, rfl⟩) (fun _ _ x => x) (fun _ _ x => x.elim))
    · exact hsb.extBut b o (Nat.ne_of_lt (Nat.lt_trans (Heap.lt_size e) hlt)) (Heap.get?_push_of_some _ (Heap.get?_push_of_some _ e))
    · exact ⟨_, hsb.extBut _ _ (Nat.ne_of_lt hlt) (Heap.get?_push_of_some _ (Heap.get?_push_size _ rfl)), rfl, _, rfl⟩

def rep1 (x : Str) (p : Str × Str) : Str := Txt.join p.2 (Txt.split x p.1)
def reps : Str → List (Str × Str) → Str
  | x, [] => x
  | x, p :: ps => reps (rep1 x p) ps
def RepOk : Str → List (Str × Str) → Prop
  | _, [] => True
  | x, p :: ps => x.length ≤ 10000 ∧ (p.1.length == 0) = false ∧ p.2.length ≤ 1000 ∧ RepOk (rep1 x p) ps

inductive PairsAre : List Value → List (Str × Str) → Prop
  | nil : PairsAre [] []
  | cons (a b : Str) (t u : Tok) {vs ps} : PairsAre vs ps → PairsAre (.str a t :: .str b u :: vs) ((a, b) :: ps)
theorem PairsAre.length {vs : List Value} {ps : List (Str × Str)} (h : PairsAre vs ps) : vs.length = 2 * ps.length := by
  induction h with
  | nil => rfl
  | cons a b t u _ ih => simp only [List.length_cons]; omega

theorem split_sum (x y : Str) : ((Txt.split x y).map (·.length)).sum ≤ x.length := by
  have h := StrLaws.join_split x y
  have h2 := size_glued y (Txt.split x y)
  rw [StrLaws.glued_eq_join, h] at h2
  omega
theorem split_len (x y : Str) (hx : x.length ≤ 1000000) : (Txt.split x y).length ≤ x.length + 2 := by
  unfold Txt.split
  split
  · simp
  · split
    · simp
    · exact parts_size hx
theorem rep_fits {x y z : Str} (hx : x.length ≤ 10000) (hz : z.length ≤ 1000) : ((Txt.split x y).map (·.length)).sum + (Txt.split x y).length * z.length ≤ 16777216 := by
  have h1 := split_sum x y
  have h2 := split_len x y (by omega)
  have h3 : (Txt.split x y).length * z.length ≤ 10002 * 1000 := Nat.mul_le_mul (by omega) hz
  omega

/-- all but one object stays -/
def Upd (L : Addr) (s s' : Shared) : Prop := ∃ h' tk, s' = { s with heap := h', toks := tk } ∧ ∀ b o, b ≠ L → s.heap.get? b = some o → h'.get? b = some o
theorem Upd.kept {L : Addr} {s s' : Shared} (u : Upd L s s') : ∀ b o, b ≠ L → s.heap.get? b = some o → s'.heap.get? b = some o := by
  obtain ⟨h, t, rfl, k⟩ := u; exact k
theorem Upd.trans {L : Addr} {s₁ s₂ s₃ : Shared} (a : Upd L s₁ s₂) (b : Upd L s₂ s₃) : Upd L s₁ s₃ := by
  obtain ⟨h, t, rfl, k⟩ := a
  obtain ⟨h', t', rfl, k'⟩ := b
  exact ⟨h', t', rfl, fun b o n e => k' b o n (k b o n e)⟩
theorem Upd.of {L : Addr} {s₁ s₂ : Shared} (a : Keeps s₁ s₂) : Upd L s₁ s₂ := by
  obtain ⟨h, t, rfl, k⟩ := a
  exact ⟨h, t, rfl, fun b o _ e => k b o e⟩
theorem ne_list {h : Heap} {L D : Addr} {m : Str → Option Value} {items : Array Value} (hn : h.Ns L m) (hl : h.IsList D items) : D ≠ L := by
  rintro rfl
  obtain ⟨o, es, ep, h1, h2, _⟩ := hn
  obtain ⟨o', h1', _, n, h2'⟩ := hl
  rw [h1] at h1'; cases h1'
  rw [h2] at h2'; cases h2'
theorem ne_tup {h : Heap} {L D : Addr} {m : Str → Option Value} {items : Array Value} (hn : h.Ns L m) (hl : IsTup h D items) : D ≠ L := by
  rintro rfl
  obtain ⟨o, es, ep, h1, h2, _⟩ := hn
  obtain ⟨o', h1', _, n, h2'⟩ := hl
  rw [h1] at h1'; cases h1'
  rw [h2] at h2'; cases h2'
theorem fr_keeps {h₀ h h' : Heap} {L : Addr} {m : Str → Option Value} (F : Fr h₀ L h m) (k : ∀ b o, h.get? b = some o → h'.get? b = some o) : Fr h₀ L h' m :=
  ⟨F.ns.keeps k, fun b o e => k b o (F.keep b o e), F.above⟩

theorem stl {M : Model} {A : Around} {E : Value → Shared → Prop} {s : Shared} {env : Env} {h₀ : Heap} {m : Str → Option Value} {x : Str} {v : Value} {Q : Unit → Shared → Prop} (F : Fr h₀ env.locals s.heap m)
    (h : ∀ s', Fr h₀ env.locals s'.heap (fun y => if y = x then some v else m y) → Upd env.locals s s' → Q () s')
    (hl : env.kindOf x = some .local := by rfl) (hp : (env.scope.kind == .class || (env.scope.kind == .module && env.locals != env.globals)) = false := by rfl) :
    wpAny M A (storeName env x v) Q E s :=
  wpAny_storeName_local hl F.ns (fun h' hn hs => h _ (F.set hn hs) ⟨h', _, rfl, hs.extBut⟩) hp
end
end Mine
-- Q02b
namespace Mine
section
open PySem PySem.W PyProof.Rows
section
variable {w : World} {A : Around} {E : Value → Shared → Prop} {s : Shared} {mg mb : Str → Option Value}

theorem replace_spec {x : Str} {t : Tok} {vs : List Value} {ps : List (Str × Str)} {R : Result → Shared → Prop} (W : Wd (KK w) mg mb s.heap) (hroom : A.depth < recursionLimit)
    (hp : PairsAre vs ps) (hn : ps.length ≤ 2) (hok : RepOk x ps)
    (h : ∀ s' t', Keeps s s' → R (.ok (.ret (.str (reps x ps) t'))) s') :
    codeAny (model PP w) A (.call (.ref 38) ⟨.str x t :: vs, []⟩) R s := by
  have hsl : sizeLine = 16777216 := sizeLine_eq
  have hvl := hp.length
  refine call_star_ret hroom (W.X 38 _ rfl) rfl W.nolimit (codeRec_of W.X rfl) (vs := vs) (binds := fun T => [("text", .str x t), ("pairs", T)]) ?_ (fun T => locs rfl) (by omega) (fun L T s₁ F₀ hT hs₁ => ?_)
  · cases hp with
    | nil => rfl
    | cons a b t u h1 => cases h1 with
      | nil => rfl
      | cons a b t u h2 => cases h2 with
        | nil => rfl
        | cons a b t u h3 => simp only [List.length_cons] at hn; omega
  obtain ⟨hh₁, tk₁, rfl⟩ := hs₁
  refine wpAny_execs_cons (wpAny_While (codeAny_whileLoop (fun n s' => ∃ (ps' : List (Str × Str)) (vs' : List Value) (x' : Str) (t' : Tok) (T' : Addr) (m : Str → Option Value),
    n = ps'.length ∧ Fr s.heap L s'.heap m ∧ m "text" = some (.str x' t') ∧ m "pairs" = some (.ref T') ∧ IsTup s'.heap T' vs'.toArray ∧ PairsAre vs' ps' ∧ RepOk x' ps' ∧ ps'.length ≤ 2 ∧ reps x' ps' = reps x ps ∧
    ∃ h' tk', s' = { s with heap := h', toks := tk' }) ?_ ps.length ⟨ps, vs, x, t, T, _, rfl, F₀, rfl, rfl, hT, hp, hok, hn, rfl, _, _, rfl⟩))
  rintro n s' ⟨ps', vs', x', t', T', m, rfl, F', hm1, hm2, hT', hp', hok', hn', hre, h', tk', rfl⟩
  have hvl' := hp'.length
  refine wpAny_isTrue_value (ldl F'.ns hm2 (truthy_tuple hT' (by rw [List.size_toArray]; omega) ?_))
  cases hp' with
  | nil =>
    show if false = true then _ else _
    rw [if_neg Bool.false_ne_true]
    refine wpAny_execs_nil ?_
    refine wpAny_execs_cons (wpAny_Return_some (ldl F'.ns hm1 ?_))
    show R (.ok (.ret (.str x' t'))) _
    have e : x' = reps x ps := hre
    rw [e]
    exact h _ _ ⟨_, _, rfl, F'.keep⟩
  | cons a b ta tb hr =>
    rename_i vs₂ ps₂
    show if true = true then _ else _
    rw [if_pos rfl]
    obtain ⟨k1, k2, k3, k4⟩ := hok'
    refine wpAny_execs_cons (wpAny_Assign_Name ?_)
    refine Call_str1 F.slot_str_join F.type_str_join (tuple_item (ldl F'.ns hm2 (wpAny_Constant_int ⟨T', _, 1, _, _, rfl, rfl, hT', by rw [List.size_toArray]; omega, rfl, b, tb, rfl, ?_⟩)))
    refine Call_str1 F.slot_str_split F.type_str_split (ldl F'.ns hm1 ⟨x', t', rfl, tuple_item (ldl F'.ns hm2 (wpAny_Constant_int ⟨T', _, 0, _, _, rfl, rfl, hT', by rw [List.size_toArray]; omega, rfl, ?_⟩))⟩)
    refine split_call k2 (by omega) fun s₂ D items kp hD hi _ => ?_
    refine join_call hD hi (rep_fits k1 k3) fun s₃ t₃ kp₃ => ?_
    have kp' := kp_trans kp kp₃
    obtain ⟨h₃, tk₃, rfl, kk₃⟩ := kp'
    have F₃ : Fr s.heap L h₃ m := ⟨F'.ns.keeps kk₃, fun b o e => kk₃ b o (F'.keep b o e), F'.above⟩
    have hT₃ : IsTup h₃ T' _ := hT'.keeps kk₃
    refine stl F₃ fun s₄ F₄ u₄ => ?_
    have hT₄ : IsTup s₄.heap T' _ := let ⟨o, ho, r⟩ := hT₃; ⟨o, u₄.kept _ _ (ne_tup F₃.ns hT₃) ho, r⟩
    refine wpAny_execs_cons (wpAny_Assign_Name ?_)
    refine tuple_from (ldl F₄.ns hm2 (wpAny_Constant_int ⟨T', _, 2, _, rfl, rfl, hT₄, by decide, ?_, ?_, fun s₅ D₅ kp₅ hD₅ => ?_⟩))
    · simp
    · rw [List.size_toArray]; omega
    have F₅ := fr_keeps F₄ (kp_kept kp₅)
    refine stl F₅ fun s₆ F₆ u₆ => ?_
    have hT₆ : IsTup s₆.heap D₅ _ := let ⟨o, ho, r⟩ := hD₅; ⟨o, u₆.kept _ _ (ne_tup F₅.ns hD₅) ho, r⟩
    refine wpAny_execs_nil ?_
    refine ⟨ps₂.length, by simp, ps₂, vs₂, rep1 x' (a, b), t₃, D₅, _, rfl, F₆, rfl, rfl, ?_, hr, k4, by simp only [List.length_cons] at hn'; omega, hre, ?_⟩
    · simpa using hT₆
    · obtain ⟨h4, tk4, rfl, _⟩ := u₄
      obtain ⟨h5, tk5, rfl, _⟩ := kp₅
      obtain ⟨h6, tk6, rfl, _⟩ := u₆
      exact ⟨_, _, rfl⟩
end
end
end Mine
-- KitC
namespace Mine
section
open PySem PySem.W PyProof.Rows

section
variable {prog : Program} {w : World} {A : Around} {E : Value → Shared → Prop} {s : Shared} {env : Env}

/-- a for over anything that walks; J is what holds between the turns -/
theorem for_walk {target iter : Expr} {body : List Stmt} {pos : Pos} {Q : Flow → Shared → Prop}
    (h : wpAny (model prog w) A (eval iter env) (fun xv s₁ => wpAny (model prog w) A (pyIter xv) (fun it s₂ => ∃ (I : Addr) (fp wr : List Addr) (n : Nat) (P : Nat → Value → Prop) (St : Nat → Heap → Prop) (J : Nat → Shared → Prop),
      it = .ref I ∧ Walks prog w A I fp wr n P St ∧ St 0 s₂.heap ∧ J 0 s₂ ∧
      (∀ i s₃ h' tk, J i s₃ → (∀ b o, b ∉ wr → s₃.heap.get? b = some o → h'.get? b = some o) → J i { s₃ with heap := h', toks := tk }) ∧
      (∀ i v s₃ E', i < n → P i v → J i s₃ → St (i + 1) s₃.heap → wpAny (model prog w) A (assign target env v) (fun _ s₄ => wpAny (model prog w) A (execs body env) (fun f s₅ => match f with
        | .next | .cont => J (i + 1) s₅ ∧ St (i + 1) s₅.heap
        | .brk => Q .next s₅
        | .ret v => Q (.ret v) s₅) E' s₄) E' s₃) ∧
      (∀ s₃, J n s₃ → Q .next s₃)) E s₁) E s)
    (hs : ∀ x, foldedSetIterable iter env x = pure x := by intro _; rfl) (ht : ∀ it v, letOwnedTupleGo target it v = pure () := by intro _ _; rfl) :
    wpAny (model prog w) A (exec (.For target iter body [] pos) env) Q E s := by
  refine wpAny_For (wpAny_mono h (fun xv s₁ h₁ => wpAny_mono h₁ (fun it s₂ h₂ => ?_) fun _ _ e => e) fun _ _ e => e) hs
  obtain ⟨I, fp, wr, n, P, St, J, rfl, W, hst, hj, hstab, hstep, hend⟩ := h₂
  refine codeAny_forLoop (fun k s' => ∃ i, k = n + 1 - i ∧ i ≤ n ∧ J i s' ∧ St i s'.heap) ?_ (n + 1) ⟨0, rfl, Nat.zero_le _, hj, hst⟩ (ht _)
  rintro k s' ⟨i, rfl, hi, hJ, hS⟩
  by_cases hlt : i < n
  · refine W.item i s' _ _ hlt hS fun v h' tk hP hS' hk => ?_
    refine wpAny_mono (hstep i v _ _ hlt hP (hstab i s' h' tk hJ hk) hS') (fun _ s₄ h₄ => wpAny_mono h₄ (fun f s₅ h₅ => ?_) fun _ _ e => e) fun _ _ e => e
    cases f with
    | next => exact ⟨n + 1 - (i + 1), by omega, i + 1, rfl, hlt, h₅.1, h₅.2⟩
    | cont => exact ⟨n + 1 - (i + 1), by omega, i + 1, rfl, hlt, h₅.1, h₅.2⟩
    | brk => exact h₅
    | ret v => exact h₅
  · have e : i = n := by omega
    subst e
    refine W.done s' _ _ hS fun h' tk hk => wpAny_execs_nil ?_
    exact hend _ (hstab i s' h' tk hJ hk)

theorem pyIter_list {D : Addr} {items : Array Value} {Q : Value → Shared → Prop} (hl : s.heap.IsList D items)
    (h : ∀ s' I, Keeps s s' → s.heap.get? I = none → s'.heap.IsListIter I D 0 → s'.heap.IsList D items → D ≠ I → Q (.ref I) s') : wpAny (model prog w) A (pyIter (.ref D)) Q E s := by
  refine wpAny_pyIter_list hl ?_
  obtain ⟨o, ho, _⟩ := id hl
  exact h _ _ ⟨_, s.toks, rfl, fun b o e => Heap.get?_push_of_some _ e⟩ (Heap.get?_none_of_le (Nat.le_refl _)) ⟨_, Heap.get?_push_size _ rfl, rfl, rfl⟩ (hl.push _) (Nat.ne_of_lt (Heap.lt_size ho))

theorem assign_pair_val {x y : Str} {px py tpos : Pos} {k : Nat} {T : Addr} {a b : Value} {Q : Unit → Shared → Prop} (hh : A.handled = none) (hT : IsTup s.heap T #[a, b])
    (h : ∀ s₂, Keeps s s₂ → wpAny (model prog w) A (storeName env x a) (fun _ s₃ => wpAny (model prog w) A (storeName env y b) Q E s₃) E s₂) :
    wpAny (model prog w) A (assign (.Tuple [.Name x px, .Name y py] k tpos) env (.ref T)) Q E s := by
  have e1 : assign (.Tuple [.Name x px, .Name y py] k tpos) env (.ref T) = (do standAt tpos; unpack (.ref T) [(false, assign (.Name x px) env), (false, assign (.Name y py) env)]) := rfl
  rw [e1]
  unfold unpack
  refine wpAny_bind (wpAny_standAt (wpAny_bind (wpAny_holding ?_)))
  refine unpackItems_tuple (items := #[a, b]) hh hT fun h' he => ?_
  have e2 : assignInOrder (List.map (fun x => x.2) [(false, assign (.Name x px) env), (false, assign (.Name y py) env)]) #[a, b].toList = (do holding [b] (assign (.Name x px) env a); holding [] (assign (.Name y py) env b); pure ()) := rfl
  rw [e2]
  refine wpAny_bind (wpAny_holding (wpAny_assign_Name (wpAny_mono (h _ ⟨h', _, rfl, fun b o e => he b o (Nat.ne_of_lt (Heap.lt_size e)) e⟩) (fun _ s₃ h₃ => ?_) fun _ _ e => e)))
  exact wpAny_bind (wpAny_holding (wpAny_assign_Name (wpAny_mono h₃ (fun _ s₄ h₄ => wpAny_pure h₄) fun _ _ e => e)))

/-- two names of the frame at once; the tuple's items are stored first to last -/
theorem assign_pair {x y : Str} {px py tpos pos : Pos} {k : Nat} {value : Expr} {Q : Flow → Shared → Prop} (hh : A.handled = none)
    (h : wpAny (model prog w) A (eval value env) (fun v s₁ => ∃ T a b, v = .ref T ∧ IsTup s₁.heap T #[a, b] ∧ ∀ s₂, Keeps s₁ s₂ →
      wpAny (model prog w) A (storeName env x a) (fun _ s₃ => wpAny (model prog w) A (storeName env y b) (fun _ => Q .next) E s₃) E s₂) E s)
    (hs : swapsWithSole [.Tuple [.Name x px, .Name y py] k tpos] value pos.line env = pure false := by rfl)
    (hw : swappedStores [.Tuple [.Name x px, .Name y py] k tpos] value env = pure none := by rfl) :
    wpAny (model prog w) A (exec (.Assign [.Tuple [.Name x px, .Name y py] k tpos] value pos) env) Q E s := by
  have h' : wpAny (model prog w) A (eval value env) (fun v s₁ => wpAny (model prog w) A (assign (.Tuple [.Name x px, .Name y py] k tpos) env v) (fun _ => Q .next) E s₁) E s := by
    refine wpAny_mono h (fun v s₁ h₁ => ?_) fun _ _ e => e
    obtain ⟨T, a, b, rfl, hT, h₂⟩ := h₁
    exact assign_pair_val hh hT h₂
  exact Assign_Tuple h' hs hw

theorem bind_pair {x y : Str} {T : Addr} {a b : Value} {Q : Unit → Shared → Prop} (hh : A.handled = none) (hT : IsTup s.heap T #[a, b])
    (h : ∀ s₂, Keeps s s₂ → wpAny (model prog w) A (storeName env y b) (fun _ s₃ => wpAny (model prog w) A (storeName env x a) Q E s₃) E s₂) :
    wpAny (model prog w) A (unpackItems (.ref T) [x, y].length none) (fun items s₂ => wpAny (model prog w) A (assignInOrder ([x, y].reverse.map fun n => bindName env n) items.reverse) Q E s₂) E s := by
  refine unpackItems_tuple (items := #[a, b]) hh hT fun h' he => ?_
  have e2 : assignInOrder ([x, y].reverse.map fun n => bindName env n) #[a, b].toList.reverse = (do holding [a] (bindName env y b); holding [] (bindName env x a); pure ()) := rfl
  rw [e2]
  refine wpAny_bind (wpAny_holding (wpAny_bindName (wpAny_mono (h _ ⟨h', _, rfl, fun b o e => he b o (Nat.ne_of_lt (Heap.lt_size e)) e⟩) (fun _ s₃ h₃ => ?_) fun _ _ e => e)))
  exact wpAny_bind (wpAny_holding (wpAny_bindName (wpAny_mono h₃ (fun _ s₄ h₄ => wpAny_pure h₄) fun _ _ e => e)))

/-- two names of the frame at once, from two expressions; stored last to first -/
theorem assign_pair_swapped {x y : Str} {px py tpos pos : Pos} {k : Nat} {value : Expr} {Q : Flow → Shared → Prop} (hh : A.handled = none)
    (h : wpAny (model prog w) A (eval value env) (fun v s₁ => ∃ T a b, v = .ref T ∧ IsTup s₁.heap T #[a, b] ∧ ∀ s₂, Keeps s₁ s₂ →
      wpAny (model prog w) A (storeName env y b) (fun _ s₃ => wpAny (model prog w) A (storeName env x a) (fun _ => Q .next) E s₃) E s₂) E s)
    (hs : swapsWithSole [.Tuple [.Name x px, .Name y py] k tpos] value pos.line env = pure false := by rfl)
    (hw : swappedStores [.Tuple [.Name x px, .Name y py] k tpos] value env = pure (some [x, y]) := by rfl) :
    wpAny (model prog w) A (exec (.Assign [.Tuple [.Name x px, .Name y py] k tpos] value pos) env) Q E s := by
  have h' : wpAny (model prog w) A (eval value env) (fun v s₁ => wpAny (model prog w) A (unpackItems v [x, y].length none) (fun items s₂ =>
      wpAny (model prog w) A (assignInOrder ([x, y].reverse.map fun n => bindName env n) items.reverse) (fun _ => Q .next) E s₂) E s₁) E s := by
    refine wpAny_mono h (fun v s₁ h₁ => ?_) fun _ _ e => e
    obtain ⟨T, a, b, rfl, hT, h₂⟩ := h₁
    exact bind_pair hh hT h₂
  exact Assign_Tuple_swapped h' hs hw

theorem new_tuple {vs : List Value} {Q : Value → Shared → Prop} (hsz : vs.length ≤ sizeLine) (h : ∀ s' T, Keeps s s' → IsTup s'.heap T vs.toArray → Q (.ref T) s') : wpAny (model prog w) A (newTuple vs) Q E s :=
  wpAny_newObj_type (h _ _ ⟨_, s.toks, rfl, fun b o e => Heap.get?_push_of_some _ e⟩ ⟨_, Heap.get?_push_size _ rfl, rfl, _, rfl⟩) (by show vs.toArray.size ≤ sizeLine; rw [List.size_toArray]; exact hsz)
theorem new_list {vs : List Value} {Q : Value → Shared → Prop} (hsz : vs.length ≤ sizeLine) (h : ∀ s' T, Keeps s s' → s'.heap.IsList T vs.toArray → s.heap.get? T = none → Q (.ref T) s') : wpAny (model prog w) A (newList vs) Q E s :=
  wpAny_newObj_type (h _ _ ⟨_, s.toks, rfl, fun b o e => Heap.get?_push_of_some _ e⟩ ⟨_, Heap.get?_push_size _ rfl, rfl, _, rfl⟩ (Heap.get?_none_of_le (Nat.le_refl _))) (by show vs.toArray.size ≤ sizeLine; rw [List.size_toArray]; exact hsz)

/-- a call of one of the text's defs by its global name, three and four arguments -/
theorem Call_fn {K : Frag} {mg mb : Str → Option Value} {f : Str} {a : Addr} {o : Obj} {fd : FuncData} {fp pos : Pos} {e : Expr} {rest : List Expr} {Q : Value → Shared → Prop} (W : Wd K mg mb s.heap)
    (e1 : nsIn K mainGlobals f = some (some (.ref a))) (e2 : K.lookup a = some o) (e3 : o.data = .func fd)
    (h : wpAny (model prog w) A (spliced (backTo pos (starEach (e :: rest) env))) (fun vs s₁ => Keeps s s₁ ∧ codeAny (model prog w) A (.call (.ref a) ⟨vs, []⟩) (fun r s' => match r with | .ok (.ret v) => Q v s' | .ok _ => False | .error e => E e s') s₁) E s)
    (hg : env.globals = mainGlobals := by rfl) (hk : env.scope.kind = .function := by rfl) (hx : env.kindOf f = some .globalImplicit := by rfl) (hd : (f == ("__debug__" : Str)) = false := by decide)
    (he : starEach (e :: rest) env = (false, eval e env) :: starEach rest env := by rfl)
    (hc : eval (.Call (.Name f fp) (e :: rest) [] pos) env = (do callWith pos (← eval (.Name f fp) env) [] (backTo pos (starEach (e :: rest) env)) (backToKw pos (keywordEach [] env))) := by rfl) :
    wpAny (model prog w) A (eval (.Call (.Name f fp) (e :: rest) [] pos) env) Q E s := by
  refine Call_ (ldg W e1 ?_ hg hk hx hd) hc
  refine callWith_def (o := o) e3 (wpAny_mono h (fun vs s₁ h₁ => ⟨(W.keeps (kp_kept h₁.1)).X _ _ e2, wpAny_call h₁.2⟩) fun _ _ e => e) he

theorem str_item {value e : Expr} {pos : Pos} {Q : Value → Shared → Prop}
    (h : wpAny (model prog w) A (eval value env) (fun o s₁ => wpAny (model prog w) A (eval e env) (fun i s₂ => ∃ (x : Str) (t : Tok) (k : Int) (u : Tok) (c : Nat), o = .str x t ∧ i = .int k u ∧ (seqIndex? k x.length).bind (x.cps[·]?) = some c ∧ -1000 ≤ k ∧ k ≤ 1000 ∧
      ∀ s' t', Keeps s₂ s' → Q (.str ⟨#[c]⟩ t') s') E s₁) E s)
    (hs : noSlice e = true := by rfl) :
    wpAny (model prog w) A (eval (.Subscript value e pos) env) Q E s := by
  refine Subscript_ (wpAny_mono h (fun o s₁ h₁ => wpAny_mono h₁ (fun i s₂ h₂ => ?_) fun _ _ e => e) fun _ _ e => e)
  obtain ⟨x, t, k, u, c, rfl, rfl, hc, h1, h2, hQ⟩ := h₂
  refine tail_any (ops := [.str x t, .int k u]) (typeIs_str _ _ _) slot_str_getitem.lookup (getItem_str ?_ hc (hQ _ _ (kp_toks _ _))) (subs_plain hs _ _)
  have a1 : ¬ k < -(2 ^ 63 : Int) := by omega
  have a2 : ¬ k ≥ (2 ^ 63 : Int) := by omega
  rw [decide_eq_false a1, decide_eq_false a2]; rfl

theorem add_str_k {x y : Str} {t u : Tok} {Q : Value → Shared → Prop} (hsz : x.length + y.length ≤ 16777216) (h : ∀ s' t', Keeps s s' → Q (.str (x ++ y) t') s') : wpAny (model prog w) A (binaryOp .Add (.str x t) (.str y u)) Q E s :=
  SB.add (fun t' k => h _ t' (kp_toks s k)) (by rw [sizeLine_eq]; exact hsz)
theorem iadd_str_k {x y : Str} {t u : Tok} {Q : Value → Shared → Prop} (hsz : x.length + y.length ≤ 16777216) (h : ∀ s' t', Keeps s s' → Q (.str (x ++ y) t') s') : wpAny (model prog w) A (inplaceOp .Add (.str x t) (.str y u)) Q E s :=
  SB.iadd (fun t' k => h _ t' (kp_toks s k)) (by rw [sizeLine_eq]; exact hsz)
theorem mul_str_k {x : Str} {n : Int} {t u : Tok} {Q : Value → Shared → Prop} (hx : x.length ≤ 16) (h0 : -1000000 ≤ n) (h1 : n ≤ 1000000) (h : ∀ s' t', Keeps s s' → Q (.str (Txt.mul x n) t') s') : wpAny (model prog w) A (binaryOp .Mult (.str x t) (.int n u)) Q E s :=
  SB.mul (mulOk_of 16 1000000 hx (by omega) (by omega) (by omega) (by omega)) (fun t' k => h _ t' (kp_toks s k))
end
end
end Mine
-- PureD
namespace Mine
section
open PySem PyProof.Rows

def crlf (n : Nat) : List Nat := (List.replicate n [13, 10]).flatten
theorem crlf_zero : crlf 0 = [] := rfl
theorem crlf_succ (n : Nat) : crlf (n + 1) = 13 :: 10 :: crlf n := by simp [crlf, List.replicate_succ]
theorem crlf_add (a b : Nat) : crlf (a + b) = crlf a ++ crlf b := by
  induction a with
  | zero => simp [crlf]
  | succ a ih => rw [show a + 1 + b = (a + b) + 1 by omega, crlf_succ, crlf_succ, ih]; rfl
theorem crlf_len (n : Nat) : (crlf n).length = 2 * n := by
  induction n with
  | zero => rfl
  | succ n ih => rw [crlf_succ]; simp only [List.length_cons, ih]; omega

def endsN (t m g : Nat) : List Nat := crlf (if g = 0 then 0 else g * t + m)
def rowT (d : Nat) (r : List Nat) : List Nat := if r.head? = some 46 then List.replicate d 46 ++ r else r
def tl (e : Nat → List Nat) (ρ : List Nat → List Nat) : Nat → List (List Nat) → List Nat
  | n, [] => e (n - 1)
  | n, r :: rs => if r = [] then tl e ρ (n + 1) rs else e n ++ ρ r ++ tl e ρ 1 rs

theorem mul_list (x : Str) (n : Int) : (Txt.mul x n).cps.toList = (List.replicate n.toNat x.cps.toList).flatten := by
  unfold Txt.mul
  by_cases h1 : n < 1
  · rw [if_pos h1]
    have : n.toNat = 0 := by omega
    rw [this]; rfl
  · rw [if_neg h1]
    split
    · rename_i h
      simp only [Bool.or_eq_true, beq_iff_eq] at h
      rcases h with h | h
      · subst h; simp
      · have : x.cps.toList = [] := by
          have : x.cps.size = 0 := h
          exact List.eq_nil_of_length_eq_zero (by simpa using this)
        rw [this]; simp
    · have key : ∀ (k : Nat) (acc : Array Nat), ((List.replicate k x.cps).foldl (· ++ ·) acc).toList = acc.toList ++ (List.replicate k x.cps.toList).flatten := by
        intro k
        induction k with
        | zero => intro acc; simp
        | succ k ih => intro acc; rw [List.replicate_succ, List.foldl_cons, ih]; simp [List.replicate_succ]
      rw [key]; simp
end
end Mine
-- KitE
namespace Mine
section
open PySem PySem.W PyProof.Rows

def Upds (S : List Addr) (s s' : Shared) : Prop := ∃ h' tk, s' = { s with heap := h', toks := tk } ∧ ∀ b o, b ∉ S → s.heap.get? b = some o → h'.get? b = some o
theorem Upds.kept {S : List Addr} {s s' : Shared} (u : Upds S s s') : ∀ b o, b ∉ S → s.heap.get? b = some o → s'.heap.get? b = some o := by
  obtain ⟨h, t, rfl, k⟩ := u; exact k
theorem Upds.trans {S : List Addr} {s₁ s₂ s₃ : Shared} (a : Upds S s₁ s₂) (b : Upds S s₂ s₃) : Upds S s₁ s₃ := by
  obtain ⟨h, t, rfl, k⟩ := a
  obtain ⟨h', t', rfl, k'⟩ := b
  exact ⟨h', t', rfl, fun b o n e => k' b o n (k b o n e)⟩
theorem Upds.mono {S S' : List Addr} {s₁ s₂ : Shared} (a : Upds S s₁ s₂) (h : ∀ b ∈ S, b ∈ S') : Upds S' s₁ s₂ := by
  obtain ⟨h', t, rfl, k⟩ := a
  exact ⟨h', t, rfl, fun b o n e => k b o (fun q => n (h b q)) e⟩
theorem Upds.of {S : List Addr} {s₁ s₂ : Shared} (a : Keeps s₁ s₂) : Upds S s₁ s₂ := by
  obtain ⟨h, t, rfl, k⟩ := a
  exact ⟨h, t, rfl, fun b o _ e => k b o e⟩
theorem Upds.refl (S : List Addr) (s : Shared) : Upds S s s := ⟨s.heap, s.toks, rfl, fun _ _ _ e => e⟩

theorem mem23 {a c d : Addr} : ∀ b ∈ [a, c], b ∈ [a, c, d] := fun b hb => by
  rcases List.mem_cons.mp hb with q | q
  · exact q ▸ .head _
  · have := List.mem_singleton.mp q
    exact this ▸ .tail _ (.head _)

def AccIs (D : Addr) (ys : List Str) (h : Heap) : Prop := ∃ items, h.IsList D items ∧ StrsAre items.toList ys
theorem AccIs.at {D : Addr} {ys : List Str} {h h' : Heap} (a : AccIs D ys h) (k : ∀ o, h.get? D = some o → h'.get? D = some o) : AccIs D ys h' := by
  obtain ⟨items, hl, hs⟩ := a
  exact ⟨items, hl.at k, hs⟩

theorem turn_mid {elt : Expr} {gens : List Comprehension} {scope : Scope} {pos : Pos} {depth : Nat} {it acc : Value} {env : Env} {x : Str} {px : Pos} {iter iter' target' : Expr} {ifs' : List Expr}
    (hg : gens[depth]? = some ⟨.Name x px, iter, [], 0⟩) (hg' : gens[depth + 1]? = some ⟨target', iter', ifs', 0⟩) :
    compTurn (.ListComp elt gens scope pos) depth it acc env = (standAt iter.pos >>= fun _ => pyNext it >>= fun r => match r with
      | none => pure (.done .next)
      | some v => letOwnedTupleGo (.Name x px) it v >>= fun _ => assign (.Name x px) env v >>= fun _ =>
        (eval iter' env >>= fun x => standAt iter'.pos >>= fun _ => foldedSetIterable iter' env x >>= fun x => holding [x] (pyIter x) >>= fun it => runOwn (.compStart (.ListComp elt gens scope pos) (depth + 1) it acc env) env >>= fun _ => pure ()) >>= fun _ => again (.compLoop (.ListComp elt gens scope pos) depth it acc env)) := by
  unfold compTurn
  simp only [hg, hg', bind_assoc, pure_bind]
  rfl
theorem turn_last {elt : Expr} {gens : List Comprehension} {scope : Scope} {pos : Pos} {depth : Nat} {it acc : Value} {env : Env} {x : Str} {px : Pos} {iter : Expr}
    (hg : gens[depth]? = some ⟨.Name x px, iter, [], 0⟩) (hg' : gens[depth + 1]? = none) :
    compTurn (.ListComp elt gens scope pos) depth it acc env = (standAt iter.pos >>= fun _ => pyNext it >>= fun r => match r with
      | none => pure (.done .next)
      | some v => letOwnedTupleGo (.Name x px) it v >>= fun _ => assign (.Name x px) env v >>= fun _ =>
        (eval elt env >>= fun x => call (.builtin "list.append") [acc, x] >>= fun _ => pure ()) >>= fun _ => again (.compLoop (.ListComp elt gens scope pos) depth it acc env)) := by
  unfold compTurn
  simp only [hg, hg']
  rfl

section
variable {prog : Program} {w : World} {A : Around} {E : Value → Shared → Prop} {s : Shared}

theorem comp_strs {elt : Expr} {gens : List Comprehension} {scope : Scope} {pos : Pos} {depth : Nat} {I ax D : Addr} {cenv : Env} {x : Str} {px p : Pos} {rest : Sem Unit} {act : Str → List Str} {items : Array Value} {zs ys₀ : List Str} {R : Result → Shared → Prop}
    (hh : A.handled = none) (hx : cenv.kindOf x = some .local) (hp : (cenv.scope.kind == .class || (cenv.scope.kind == .module && cenv.locals != cenv.globals)) = false)
    (ht : compTurn (.ListComp elt gens scope pos) depth (.ref I) (.ref D) cenv = (standAt p >>= fun _ => pyNext (.ref I) >>= fun r => match r with
      | none => pure (.done .next)
      | some v => letOwnedTupleGo (.Name x px) (.ref I) v >>= fun _ => assign (.Name x px) cenv v >>= fun _ => rest >>= fun _ => again (.compLoop (.ListComp elt gens scope pos) depth (.ref I) (.ref D) cenv)))
    (hz : StrsAre items.toList zs) (hDC : D ≠ cenv.locals) (hIC : I ≠ cenv.locals) (hID : I ≠ D) (haC : ax ≠ cenv.locals) (haD : ax ≠ D) (haI : ax ≠ I)
    (hB : (ys₀ ++ zs.flatMap act).length ≤ 1000000)
    (step : ∀ (y : Str) (ty : Tok) (ys : List Str) (s₁ : Shared) (m₁ : Str → Option Value) (E' : Value → Shared → Prop), y ∈ zs → Upds [cenv.locals, D, I] s s₁ → s₁.heap.Ns cenv.locals m₁ → m₁ x = some (.str y ty) → AccIs D ys s₁.heap → (ys ++ act y).length ≤ 1000000 →
      wpAny (model prog w) A rest (fun _ s₂ => Upds [cenv.locals, D] s₁ s₂ ∧ (∃ m₂, s₂.heap.Ns cenv.locals m₂) ∧ AccIs D (ys ++ act y) s₂.heap) E' s₁)
    (hit : s.heap.IsListIter I ax 0) (hl : s.heap.IsList ax items) (hn : ∃ m, s.heap.Ns cenv.locals m) (ha : AccIs D ys₀ s.heap)
    (hR : ∀ s', Upds [cenv.locals, D, I] s s' → (∃ m', s'.heap.Ns cenv.locals m') → AccIs D (ys₀ ++ zs.flatMap act) s'.heap → R (.ok .next) s') :
    codeAny (model prog w) A (.compLoop (.ListComp elt gens scope pos) depth (.ref I) (.ref D) cenv) R s := by
  have hil : items.size = zs.length := by have := hz.len_eq; simpa using this
  refine codeAny_loop rfl (fun n s' => ∃ i, n = zs.length + 1 - i ∧ i ≤ zs.length ∧ Upds [cenv.locals, D, I] s s' ∧ s'.heap.IsListIter I ax i ∧ s'.heap.IsList ax items ∧ (∃ m, s'.heap.Ns cenv.locals m) ∧ AccIs D (ys₀ ++ (zs.take i).flatMap act) s'.heap)
    ?_ (zs.length + 1) ⟨0, rfl, Nat.zero_le _, Upds.refl _ s, hit, hl, hn, by simpa using ha⟩
  rintro n s' ⟨i, rfl, hi, hu, hit', hl', ⟨m, hn'⟩, ha'⟩
  show wpAny _ A ((compTurn (.ListComp elt gens scope pos) depth (.ref I) (.ref D) cenv).onRaise (fun x => do noteFrame x cenv; theTreesLotGoes x)) _ _ s'
  refine wpAny_noted ?_
  rw [ht]
  refine wpAny_bind (wpAny_standAt (wpAny_bind ?_))
  cases hv : items[i]? with
  | none =>
    have hie : i = zs.length := by
      have : items.size ≤ i := by simpa using hv
      omega
    refine wpAny_pyNext_list_end hh hit' hl' hv fun h₁ he₁ => wpAny_pure ?_
    have u₁ : Upds [cenv.locals, D, I] s' { s' with heap := h₁ } := ⟨h₁, _, rfl, fun b o hb e => he₁ b o (fun q => hb (by simp [q])) e⟩
    refine hR _ (hu.trans u₁) ⟨m, hn'.extBut he₁ (Ne.symm hIC)⟩ ?_
    rw [hie, List.take_length] at ha'
    exact ha'.at fun o e => he₁ _ _ (Ne.symm hID) e
  | some v =>
    have hlt : i < items.size := (Array.getElem?_eq_some_iff.mp hv).1
    obtain ⟨y, ty, rfl, hy⟩ := hz.item i v (by simpa using hv)
    refine wpAny_pyNext_list_item hit' hl' hv fun h₁ hit₁ hs₁ => ?_
    refine wpAny_bind (wpAny_of_eq (a := ()) rfl ?_)
    refine wpAny_bind (wpAny_assign_Name (wpAny_storeName_local hx (hn'.sameBut hs₁ (Ne.symm hIC)) (fun h₂ hn₂ hs₂ => ?_) hp))
    have htk : zs.take (i + 1) = zs.take i ++ [y] := by rw [List.take_add_one, hy]; rfl
    have u₂ : Upds [cenv.locals, D, I] s' { s' with heap := h₂, toks := s'.toks + 1 } := ⟨h₂, _, rfl, fun b o hb e => hs₂.extBut b o (fun q => hb (by simp [q])) (hs₁.extBut b o (fun q => hb (by simp [q])) e)⟩
    have hbound : (ys₀ ++ (zs.take i).flatMap act ++ act y).length ≤ 1000000 := by
      have e1 : zs = zs.take (i + 1) ++ zs.drop (i + 1) := (List.take_append_drop _ _).symm
      have e2 : (ys₀ ++ zs.flatMap act).length = (ys₀ ++ (zs.take (i + 1)).flatMap act).length + ((zs.drop (i + 1)).flatMap act).length := by
        conv => lhs; rw [e1]
        rw [List.flatMap_append]; simp only [List.length_append]; omega
      rw [htk, List.flatMap_append] at e2
      simp only [List.length_append, List.flatMap_cons, List.flatMap_nil, List.append_nil] at *
      omega
    refine wpAny_bind (wpAny_mono (step y ty (ys₀ ++ (zs.take i).flatMap act) _ _ _ (List.mem_of_getElem? hy) (hu.trans u₂) hn₂ (by simp) (ha'.at fun o e => hs₂.extBut _ _ hDC (hs₁.extBut _ _ (Ne.symm hID) e)) hbound) (fun _ s₃ h₃ => ?_) fun _ _ e => e)
    obtain ⟨u₃, hn₃, ha₃⟩ := h₃
    refine wpAny_pure ⟨rfl, zs.length + 1 - (i + 1), by omega, i + 1, rfl, by omega, hu.trans (u₂.trans (u₃.mono mem23)), ?_, ?_, hn₃, ?_⟩
    · exact (hit₁.extBut hs₂.extBut hIC).at fun o e => u₃.kept _ _ (by simp [hIC, hID]) e
    · exact (((hl'.extBut hs₁.extBut haI).extBut hs₂.extBut haC)).at fun o e => u₃.kept _ _ (by simp [haC, haD]) e
    · rw [htk, List.flatMap_append]
      simpa [List.append_assoc] using ha₃

theorem compStart_at {elt : Expr} {gens : List Comprehension} {scope : Scope} {pos : Pos} {depth : Nat} {it acc : Value} {env : Env} {g : Comprehension} {R : Result → Shared → Prop} (hg : gens[depth]? = some g) (ha : g.is_async = 0)
    (h0 : codeAny (model prog w) A (.compLoop (.ListComp elt gens scope pos) depth it acc env) R s)
    (h : wpAny (model prog w) A (pyIter it) (fun it' s' => codeAny (model prog w) A (.compLoop (.ListComp elt gens scope pos) depth it' acc env) R s') (notedBy (model prog w) A env fun x s' => R (.error x) s') s) :
    codeAny (model prog w) A (.compStart (.ListComp elt gens scope pos) depth it acc env) R s := by
  refine codeAny_of_tree ?_
  show wpAny _ _ ((compStart (.ListComp elt gens scope pos) depth it acc env).onRaise (fun x => do noteFrame x env; standAt theWindowsPlace)) _ _ s
  refine wpAny_notedAt ?_
  unfold compStart
  have hc : clausesOf (.ListComp elt gens scope pos) = gens := rfl
  rw [hc, hg]
  simp only [Option.elim, ha, bne_self_eq_false, Bool.false_eq_true, if_false]
  refine wpAny_bind (wpAny_askSetting (wpAny_ite ?_))
  split
  · exact wpAny_pure (And.intro rfl h0)
  · exact wpAny_bind (wpAny_rule (wpAny_bind (wpAny_standAt (wpAny_bind (wpAny_mono h (fun it' s' h' => wpAny_pure (And.intro rfl h')) fun _ _ x => x)))))

/-- the inner clause of a nested comprehension over texts -/
theorem nest_rest {elt : Expr} {gens : List Comprehension} {scope : Scope} {pos ipos : Pos} {depth : Nat} {D : Addr} {cenv : Env} {g : Comprehension} {iter' : Expr} {zs ys : List Str} {act : Str → List Str}
    (hg : gens[depth]? = some g) (ha : g.is_async = 0) (hs : ∀ x, foldedSetIterable iter' cenv x = pure x) (hA : A.mark none = A)
    (hev : wpAny (model prog w) A (eval iter' cenv) (fun v s₂ => Keeps s s₂ ∧ ∃ ax items, v = .ref ax ∧ s₂.heap.IsList ax items ∧ StrsAre items.toList zs ∧ s.heap.get? ax = none) E s)
    (hn : ∃ m, s.heap.Ns cenv.locals m) (hacc : AccIs D ys s.heap)
    (inner : ∀ s₃ I ax items R, Keeps s s₃ → s.heap.get? I = none → s.heap.get? ax = none → StrsAre items.toList zs → s₃.heap.IsListIter I ax 0 → s₃.heap.IsList ax items → ax ≠ I → (∃ m, s₃.heap.Ns cenv.locals m) → AccIs D ys s₃.heap →
      (∀ s', Upds [cenv.locals, D, I] s₃ s' → (∃ m', s'.heap.Ns cenv.locals m') → AccIs D (ys ++ zs.flatMap act) s'.heap → R (.ok .next) s') →
      codeAny (model prog w) A (.compLoop (.ListComp elt gens scope pos) depth (.ref I) (.ref D) cenv) R s₃) :
    wpAny (model prog w) A (eval iter' cenv >>= fun x => standAt ipos >>= fun _ => foldedSetIterable iter' cenv x >>= fun x => holding [x] (pyIter x) >>= fun it => runOwn (.compStart (.ListComp elt gens scope pos) depth it (.ref D) cenv) cenv >>= fun _ => pure ())
      (fun _ s₂ => Upds [cenv.locals, D] s s₂ ∧ (∃ m₂, s₂.heap.Ns cenv.locals m₂) ∧ AccIs D (ys ++ zs.flatMap act) s₂.heap) E s := by
  refine wpAny_bind (wpAny_mono hev (fun v s₂ h₂ => ?_) fun _ _ e => e)
  obtain ⟨k₂, ax, items, rfl, hl, hz, hax⟩ := h₂
  refine wpAny_bind (wpAny_standAt (wpAny_bind (wpAny_of_eq (hs _) (wpAny_bind (wpAny_holding (pyIter_list hl fun s₃ I k₃ hI hit hl₃ hne => ?_))))))
  refine wpAny_bind (wpAny_runOwn ?_)
  rw [hA]
  have kk := kp_trans k₂ k₃
  have hI0 : s.heap.get? I = none := by
    cases q : s.heap.get? I with
    | none => rfl
    | some o => have := kp_kept k₂ _ _ q; rw [hI] at this; cases this
  obtain ⟨m, hn⟩ := hn
  have key : ∀ (R : Result → Shared → Prop), (∀ s', Upds [cenv.locals, D, I] s₃ s' → (∃ m', s'.heap.Ns cenv.locals m') → AccIs D (ys ++ zs.flatMap act) s'.heap → R (.ok .next) s') →
      codeAny (model prog w) A (.compLoop (.ListComp elt gens scope pos) depth (.ref I) (.ref D) cenv) R s₃ := fun R hR =>
    inner s₃ I ax items R kk hI0 hax hz hit hl₃ hne ⟨m, hn.keeps (kp_kept kk)⟩ (hacc.at fun o e => kp_kept kk _ _ e) hR
  have fin : ∀ s', Upds [cenv.locals, D, I] s₃ s' → (∃ m', s'.heap.Ns cenv.locals m') → AccIs D (ys ++ zs.flatMap act) s'.heap →
      wpAny (model prog w) A (pure ()) (fun _ s₂ => Upds [cenv.locals, D] s s₂ ∧ (∃ m₂, s₂.heap.Ns cenv.locals m₂) ∧ AccIs D (ys ++ zs.flatMap act) s₂.heap) E s' := by
    intro s' u hm hac
    refine wpAny_pure ⟨?_, hm, hac⟩
    obtain ⟨h3, t3, rfl, kk3⟩ := kk
    obtain ⟨h', t', rfl, k'⟩ := u
    refine ⟨h', t', rfl, fun b o hb e => k' b o (fun q => ?_) (kk3 b o e)⟩
    have hbI : b ≠ I := fun q => by rw [q, hI0] at e; cases e
    rcases List.mem_cons.mp q with q | q
    · exact hb (q ▸ .head _)
    · rcases List.mem_cons.mp q with q | q
      · exact hb (q ▸ .tail _ (.head _))
      · exact hbI (List.mem_singleton.mp q)
  exact compStart_at hg ha (key _ fin) (wpAny_pyIter_listiter hit (key _ fin))

/-- a name of the frame is given a comprehension's list of texts, however deep its clauses -/
theorem assign_comp {env : Env} {elt target iter : Expr} {ifs : List Expr} {gs : List Comprehension} {y : Str} {py pos spos : Pos} {scope : Scope} {Q : Flow → Shared → Prop} {out : List Str}
    (hsw : swapsWith (.ListComp elt (⟨target, iter, ifs, 0⟩ :: gs) scope pos) (some (.Name y py)) spos.line env = pure true)
    (hfree : ∀ z ∈ scope.names, z.2 ≠ .free) (hcell : ∀ z ∈ scope.names, z.2 ≠ .cell) (hkind : scope.kind = .function)
    (hnames : ∀ z ∈ scope.names, z.2 = .local → scope.names.lookup z.1 = some .local)
    (hy : env.kindOf y = some .local) (hp : (env.scope.kind == .class || (env.scope.kind == .module && env.locals != env.globals)) = false)
    (h : wpAny (model prog w) A (eval iter env) (fun xv s₁ => ∃ ax items m, xv = .ref ax ∧ s₁.heap.IsList ax items ∧ s₁.heap.Ns env.locals m ∧
      (∀ s₃ I D C R, Keeps s₁ s₃ → s₁.heap.get? I = none → s₁.heap.get? D = none → s₁.heap.get? C = none → I ≠ C → I ≠ D → D ≠ C → s₃.heap.IsListIter I ax 0 → s₃.heap.IsList ax items → (∃ m', s₃.heap.Ns C m') → AccIs D [] s₃.heap →
        (∀ s', Upds [C, D, I] s₃ s' → (∃ m', s'.heap.Ns C m') → AccIs D out s'.heap → R (.ok .next) s') →
        codeAny (model prog w) A (.compLoop (.ListComp elt (⟨target, iter, ifs, 0⟩ :: gs) scope pos) 0 (.ref I) (.ref D) (compEnv scope C env)) R s₃) ∧
      (∀ D s', s₁.heap.get? D = none → Upd env.locals s₁ s' → AccIs D out s'.heap → s'.heap.Ns env.locals (fun z => if z = y then some (.ref D) else m z) → Q .next s')) E s)
    (hs : ∀ x, foldedSetIterable iter env x = pure x := by intro _; rfl) :
    wpAny (model prog w) A (exec (.Assign [.Name y py] (.ListComp elt (⟨target, iter, ifs, 0⟩ :: gs) scope pos) spos) env) Q E s := by
  rw [exec_Assign_Name_used _ _ _ _ hsw]
  refine wpAny_bind (wpAny_standAt (wpAny_bind ?_))
  show wpAny _ A (do let _ ← comprehension (.ListComp elt (⟨target, iter, ifs, 0⟩ :: gs) scope pos) scope env _ (newList []) false (eval iter env) (some (assign (.Name y py) env))) _ _ s
  refine wpAny_bind (wpAny_mono (wpAny_comprehension_use (Q := fun _ s' => Q .next s') rfl hs hfree hkind hnames (wpAny_mono h (fun xv s₁ h₁ => ?_) fun _ _ e => e))
    (fun _ s' hq => wpAny_pure (wpAny_pure hq)) fun _ _ e => e)
  obtain ⟨ax, items, m, rfl, hl, hn, hloop, hQ⟩ := h₁
  refine wpAny_pyIter_list hl (wpAny_newObj_type (hd := by size_fits) (wpAny_newFunctionEnv hcell (by intro y hy; simp at hy) (fun h₁ hns₁ hsb₁ => ?_) hkind))
  dsimp only at hns₁ hsb₁ ⊢
  obtain ⟨ol, hol, hol'⟩ := id hl
  have hax : ax < s₁.heap.objs.size := Heap.lt_size hol
  generalize hH1 : s₁.heap.push { cls := .type "list_iterator", data := .fields #[.ref ax, .int 0 0] } = H1 at hns₁ hsb₁ ⊢
  have hD : H1.objs.size = s₁.heap.objs.size + 1 := by rw [← hH1, Heap.size_push]
  generalize hH2 : H1.push { cls := .type "list", dict := none, data := .seq ([] : List Value).toArray } = H2 at hns₁ hsb₁ ⊢
  have hC : H2.objs.size = s₁.heap.objs.size + 2 := by rw [← hH2, Heap.size_push, hD]
  have hDI : H1.objs.size ≠ s₁.heap.objs.size := by rw [hD]; exact Nat.succ_ne_self _
  have hDC : H1.objs.size ≠ H2.objs.size := by rw [hD, hC]; exact Nat.ne_of_lt (Nat.lt_succ_self _)
  have hIC : s₁.heap.objs.size ≠ H2.objs.size := by rw [hC]; exact Nat.ne_of_lt (Nat.lt_succ_of_lt (Nat.lt_succ_self _))
  have belowC : ∀ b, b < s₁.heap.objs.size → b ≠ H2.objs.size := fun b hb => by rw [hC]; exact Nat.ne_of_lt (Nat.lt_succ_of_lt (Nat.lt_succ_of_lt hb))
  have belowD : ∀ b, b < s₁.heap.objs.size → b ≠ H1.objs.size := fun b hb => by rw [hD]; exact Nat.ne_of_lt (Nat.lt_succ_of_lt hb)
  have old : ∀ b o, s₁.heap.get? b = some o → h₁.get? b = some o := fun b o e =>
    hsb₁.extBut b o (belowC b (Heap.lt_size e)) (Heap.get?_push_of_some _ (hH2 ▸ Heap.get?_push_of_some _ (hH1 ▸ Heap.get?_push_of_some _ e)))
  have hit : h₁.IsListIter s₁.heap.objs.size ax 0 :=
    ⟨_, hsb₁.extBut _ _ hIC (Heap.get?_push_of_some _ (hH2 ▸ Heap.get?_push_of_some _ (hH1 ▸ Heap.get?_push_size _ rfl))), rfl, rfl⟩
  have hacc : h₁.IsList H1.objs.size #[] := ⟨_, hsb₁.extBut _ _ hDC (Heap.get?_push_of_some _ (hH2 ▸ Heap.get?_push_size _ rfl)), rfl, _, rfl⟩
  have hl₁ : h₁.IsList ax items := ⟨ol, old _ _ hol, hol'⟩
  have fresh : ∀ a, s₁.heap.objs.size ≤ a → s₁.heap.get? a = none := fun a ha => Heap.get?_none_of_le ha
  have loop : ∀ s₂ : Shared, s₂ = { s₁ with heap := h₁, toks := s₁.toks + ([] : List (Str × Value)).length } → codeAny (model prog w) A (.compLoop (.ListComp elt (⟨target, iter, ifs, 0⟩ :: gs) scope pos) 0 (.ref s₁.heap.objs.size) (.ref H1.objs.size) (compEnv scope H2.objs.size env))
      (fun r s' => match r with
      | .ok _ => wpAny (model prog w) A (assign (.Name y py) env (.ref H1.objs.size)) (fun _ s'' => ∃ m, s''.heap.Ns H2.objs.size m ∧ ∀ h', Heap.SameBut H2.objs.size s''.heap h' → Q .next { s'' with heap := h' }) E s'
      | .error x => ∃ m, s'.heap.Ns H2.objs.size m ∧ ∀ h', Heap.SameBut H2.objs.size s'.heap h' → wpAny (model prog w) A (passOn "comprehension.variables-let-go" x (compEnv scope H2.objs.size env) : Sem Value) (fun _ s' => Q .next s') E { s' with heap := h' }) s₂ := by
    rintro s₂ rfl
    refine hloop { s₁ with heap := h₁, toks := s₁.toks + ([] : List (Str × Value)).length } _ _ _ _ ⟨h₁, _, rfl, old⟩ (fresh _ (Nat.le_refl _)) (fresh _ (by rw [hD]; exact Nat.le_succ _)) (fresh _ (by rw [hC]; exact Nat.le_add_right _ _)) hIC (Ne.symm hDI) hDC hit hl₁ ⟨_, hns₁⟩ ⟨#[], hacc, .nil⟩ ?_
    intro s' u hm' hac
    obtain ⟨h', t', rfl, k'⟩ := u
    obtain ⟨oL, eL1, eL2, hoL, rL⟩ := id hn
    have hLlt : env.locals < s₁.heap.objs.size := Heap.lt_size hoL
    have kept : ∀ b o, s₁.heap.get? b = some o → h'.get? b = some o := fun b o e => k' b o (fun q => by
      have hb := Heap.lt_size e
      rcases List.mem_cons.mp q with q | q
      · exact belowC b hb q
      · rcases List.mem_cons.mp q with q | q
        · exact belowD b hb q
        · exact absurd (List.mem_singleton.mp q) (Nat.ne_of_lt hb)) (old b o e)
    refine wpAny_assign_Name (wpAny_storeName_local hy (hn.keeps kept) (fun h₂ hn₂ hs₂ => ?_) hp)
    obtain ⟨m', hm'⟩ := hm'
    refine ⟨m', hm'.sameBut hs₂ (Ne.symm (belowC _ hLlt)), fun h₃ hs₃ => ?_⟩
    refine hQ H1.objs.size _ (fresh _ (by rw [hD]; exact Nat.le_succ _)) ⟨h₃, _, rfl, fun b o hb e => ?_⟩ ?_ (hn₂.sameBut hs₃ (belowC _ hLlt))
    · exact hs₃.extBut b o (belowC b (Heap.lt_size e)) (hs₂.extBut b o hb (kept b o e))
    · exact (hac.at fun o e => hs₂.extBut _ _ (Ne.symm (belowD _ hLlt)) e).at fun o e => hs₃.extBut _ _ hDC e
  exact compStart_at (by rfl) rfl (loop _ rfl) (wpAny_pyIter_listiter hit (loop _ rfl))
end
end
end Mine
-- KitD
namespace Mine
section
open PySem PySem.W PyProof.Rows

def constInts? : List Expr → Option (List Int)
  | [] => some []
  | .Constant (.int i) _ _ :: r => (constInts? r).map (i :: ·)
  | _ => none
def constStrs? : List Expr → Option (List Str)
  | [] => some []
  | .Constant (.str x) _ _ :: r => (constStrs? r).map (x :: ·)
  | _ => none

section
variable {prog : Program} {w : World} {A : Around} {E : Value → Shared → Prop} {env : Env}

theorem kp_step {s s' : Shared} {t : Nat} (k : Keeps { s with toks := t } s') : Keeps s s' := kp_trans (kp_toks s t) k

theorem ints_spliced {pos : Pos} : ∀ {es : List Expr} {ns : List Int} {s : Shared} {Q : List Value → Shared → Prop}, constInts? es = some ns → (∀ s' vs, Keeps s s' → IntsAre vs ns → Q vs s') →
    wpAny (model prog w) A (spliced (backTo pos (starEach es env))) Q E s
  | [], ns, s, Q, he, h => by
    cases he
    exact args_nil (h s [] (kp_refl s) .nil)
  | e :: r, ns, s, Q, he, h => by
    unfold constInts? at he
    split at he
    · rename_i heq; cases heq
    · rename_i i k p r' heq
      cases heq
      cases hr : constInts? r with
      | none => rw [hr] at he; cases he
      | some ns' =>
        rw [hr] at he
        cases he
        exact args_cons (wpAny_Constant_int (ints_spliced hr fun s' vs k hi => h s' _ (kp_step k) (.cons _ _ hi)))
    · cases he
theorem strs_spliced {pos : Pos} : ∀ {es : List Expr} {ns : List Str} {s : Shared} {Q : List Value → Shared → Prop}, constStrs? es = some ns → (∀ s' vs, Keeps s s' → StrsAre vs ns → Q vs s') →
    wpAny (model prog w) A (spliced (backTo pos (starEach es env))) Q E s
  | [], ns, s, Q, he, h => by
    cases he
    exact args_nil (h s [] (kp_refl s) .nil)
  | e :: r, ns, s, Q, he, h => by
    unfold constStrs? at he
    split at he
    · rename_i heq; cases heq
    · rename_i i k p r' heq
      cases heq
      cases hr : constStrs? r with
      | none => rw [hr] at he; cases he
      | some ns' =>
        rw [hr] at he
        cases he
        exact args_cons (wpAny_Constant_str (strs_spliced hr fun s' vs k hi => h s' _ (kp_step k) (.cons _ _ hi)))
    · cases he

theorem list_ints {s : Shared} {pos : Pos} {es : List Expr} {ns : List Int} {Q : Value → Shared → Prop} (he : constInts? es = some ns) (hn : ns.length ≤ 1000)
    (h : ∀ s' T items, Keeps s s' → s'.heap.IsList T items → IntsAre items.toList ns → s.heap.get? T = none → Q (.ref T) s') : wpAny (model prog w) A (eval (.List es pos) env) Q E s :=
  List_ (ints_spliced he fun s₁ vs k₁ hi => new_list (by rw [hi.length, sizeLine_eq]; omega) fun s₂ T k₂ hT hf => h s₂ T _ (kp_trans k₁ k₂) hT (by simpa using hi) (by
    cases q : s.heap.get? T with
    | none => rfl
    | some o => have := kp_kept k₁ _ _ q; rw [hf] at this; cases this))
theorem list_strs {s : Shared} {pos : Pos} {es : List Expr} {ns : List Str} {Q : Value → Shared → Prop} (he : constStrs? es = some ns) (hn : ns.length ≤ 1000)
    (h : ∀ s' T items, Keeps s s' → s'.heap.IsList T items → StrsAre items.toList ns → s.heap.get? T = none → Q (.ref T) s') : wpAny (model prog w) A (eval (.List es pos) env) Q E s :=
  List_ (strs_spliced he fun s₁ vs k₁ hi => new_list (by rw [hi.len_eq, sizeLine_eq]; omega) fun s₂ T k₂ hT hf => h s₂ T _ (kp_trans k₁ k₂) hT (by simpa using hi) (by
    cases q : s.heap.get? T with
    | none => rfl
    | some o => have := kp_kept k₁ _ _ q; rw [hf] at this; cases this))
end
end
end Mine
-- KitF
namespace Mine
section
open PySem PySem.W PyProof.Rows

def fnOf? (p : Program) (n : Str) : Option (List Stmt × Scope) :=
  match p.main.body.find? (fun st => match st with | .FunctionDef m .. => m == n | _ => false) with
  | some (.FunctionDef _ _ b _ _ _ sc _ _ _) => some (b, sc)
  | _ => none
def lbody (p : Program) : List Stmt := ((fnOf? p "law").map (·.1)).getD []
def lscope (p : Program) : Scope := ((fnOf? p "law").map (·.2)).getD { kind := .module, names := [], isGenerator := false, isCoroutine := false }
def lst (p : Program) (i : Nat) : Stmt := (lbody p).getD i (.Pass ⟨0, 0, 0, 0⟩)
theorem paired_ints' {F : Value → Value → Prop} {f : Int → Int} (hF : ∀ n t y, F (.int n t) y → ∃ u, y = .int (f n) u) {vs ys : List Value} (hp : Paired F vs ys) : ∀ {ns : List Int}, IntsAre vs ns → IntsAre ys (ns.map f) := by
  induction hp with
  | nil => intro ns h; cases h; exact .nil
  | cons h1 _ ih =>
    intro ns h
    cases h with
    | cons n t r =>
      obtain ⟨u, rfl⟩ := hF _ _ _ h1
      exact .cons _ u (ih r)
theorem paired_strs {F : Value → Value → Prop} {f : Int → Str} (hF : ∀ n t y, F (.int n t) y → ∃ u, y = .str (f n) u) {vs ys : List Value} (hp : Paired F vs ys) : ∀ {ns : List Int}, IntsAre vs ns → StrsAre ys (ns.map f) := by
  induction hp with
  | nil => intro ns h; cases h; exact .nil
  | cons h1 _ ih =>
    intro ns h
    cases h with
    | cons n t r =>
      obtain ⟨u, rfl⟩ := hF _ _ _ h1
      exact .cons _ u (ih r)
theorem IntsAre.item' : ∀ {vs : List Value} {ns : List Int}, IntsAre vs ns → ∀ v ∈ vs, ∃ n t, v = .int n t ∧ n ∈ ns
  | _, _, .cons n t r, v, hv => by
    rcases List.mem_cons.mp hv with q | q
    · exact ⟨n, t, q, .head _⟩
    · obtain ⟨n', t', e, hm⟩ := IntsAre.item' r v q
      exact ⟨n', t', e, .tail _ hm⟩
theorem IntsAre.take' : ∀ {vs : List Value} {ns : List Int}, IntsAre vs ns → ∀ k : Nat, IntsAre (vs.take k) (ns.take k)
  | _, _, _, 0 => .nil
  | _, _, .nil, _ + 1 => .nil
  | _, _, .cons n t r, k + 1 => .cons n t (IntsAre.take' r k)

theorem boot_chr : bootBuiltins "chr" = some (.builtin "chr") := by kernel_rfl
theorem boot_len : bootBuiltins "len" = some (.builtin "len") := by kernel_rfl
theorem boot_range : bootBuiltins "range" = some (.type "range") := by kernel_rfl

section
variable {prog : Program} {w : World} {A : Around} {E : Value → Shared → Prop} {s : Shared} {env : Env}
theorem args_str {x : Str} {k : Nat} {p pos : Pos} {rest : List Expr} {Q : List Value → Shared → Prop} (h : ∀ s' t, Keeps s s' → wpAny (model prog w) A (spliced (backTo pos (starEach rest env))) (fun vs s₂ => Q (.str x t :: vs) s₂) E s') :
    wpAny (model prog w) A (spliced (backTo pos (starEach (.Constant (.str x) k p :: rest) env))) Q E s :=
  args_cons (wpAny_Constant_str (h _ _ (kp_toks s _)))
/-- a built-in of one argument, by its name -/
theorem Call_b1 {K : Frag} {mg mb : Str → Option Value} {f : Str} {id : String} {fp pos : Pos} {e : Expr} {Q : Value → Shared → Prop} (W : Wd K mg mb s.heap) (e1 : nsIn K mainGlobals f = some none) (hv : bootBuiltins f = some (.builtin id)) (hn : f ≠ "__name__")
    (h : wpAny (model prog w) A (eval e env) (fun v s₁ => wpAny (model prog w) A (call (.builtin id) [v]) Q E s₁) E s)
    (hg : env.globals = mainGlobals := by rfl) (hb : env.builtins = builtinsNs := by rfl) (hk : env.scope.kind = .function := by rfl) (hx : env.kindOf f = some .globalImplicit := by rfl) (hd : (f == ("__debug__" : Str)) = false := by decide)
    (hs : starEach [e] env = [(false, eval e env)] := by rfl) :
    wpAny (model prog w) A (eval (.Call (.Name f fp) [e] [] pos) env) Q E s :=
  Call_name1 hs (ldb W e1 hv hn (PySem.callWith_builtin1 h) hg hb hk hx hd)
end

theorem ints_at : ∀ {vs : List Value} {ns : List Int}, IntsAre vs ns → ∀ {i : Nat} {n : Int}, ns[i]? = some n → ∃ t, vs[i]? = some (.int n t)
  | _, _, .cons n t r, 0, _, h => by cases h; exact ⟨t, rfl⟩
  | _, _, .cons n t r, i + 1, _, h => ints_at r h
theorem StrsAre.get' {vs : List Value} {ys : List Str} (h : StrsAre vs ys) {k : Nat} (hk : k < ys.length) : ∃ t, vs[k]? = some (.str (ys.getD k Str.empty) t) := by
  have e : ys[k]? = some (ys.getD k Str.empty) := by rw [List.getD_eq_getElem?_getD, List.getElem?_eq_getElem hk]; rfl
  exact h.at e

section
variable {prog : Program} {w : World} {A : Around} {E : Value → Shared → Prop} {s : Shared} {env : Env}
theorem range_iter {K : Frag} {mg mb : Str → Option Value} {fp pos : Pos} {e : Expr} {Q : Value → Shared → Prop} (W : Wd K mg mb s.heap) (e1 : nsIn K mainGlobals (Str.ofString "range") = some none)
    (h : wpAny (model prog w) A (eval e env) (fun v s₁ => Keeps s s₁ ∧ ∃ (n : Nat) (t : Tok), v = .int (n : Nat) t ∧ n ≤ 100000 ∧
      ∀ s' I, Keeps s₁ s' → s₁.heap.get? I = none → IsRangeIter s'.heap I 0 n 1 → Q (.ref I) s') E s)
    (hg : env.globals = mainGlobals := by rfl) (hb : env.builtins = builtinsNs := by rfl) (hk : env.scope.kind = .function := by rfl) (hx : env.kindOf (Str.ofString "range") = some .globalImplicit := by rfl)
    (hs : starEach [e] env = [(false, eval e env)] := by rfl) :
    wpAny (model prog w) A (eval (.Call (.Name (Str.ofString "range") fp) [e] [] pos) env) (fun xv s₁ => wpAny (model prog w) A (pyIter xv) Q E s₁) E s := by
  refine Call_name1 hs (ldb W e1 boot_range (by decide) ?_ hg hb hk hx (by decide))
  refine callWith_type1 (wpAny_mono h (fun v s₁ h₁ => ?_) fun _ _ x => x)
  obtain ⟨k, n, t, rfl, hn, hQ⟩ := h₁
  refine call_range_1 ?_
  refine wpAny_pyIter_range (IsRange.new s₁.heap 0 n 1 _ _ _) (small_one (by omega) (by omega) (by omega) (by omega)) ?_
  have hsz : Builtin.Range.rangeSize 0 n 1 = (n : Int) := by
    rw [rangeSize_one]
    split <;> omega
  rw [hsz]
  refine hQ _ _ ⟨_, _, rfl, fun b o e => Heap.get?_push_of_some _ (Heap.get?_push_of_some _ e)⟩ ?_ (Heap.get?_push_size _ rfl)
  exact Heap.get?_none_of_le (by show _ ≤ (s₁.heap.push _).objs.size; rw [Heap.size_push]; exact Nat.le_succ _)
end

theorem acc_ne {h : Heap} {D : Addr} {ys : List Str} (a : AccIs D ys h) : ∃ o, h.get? D = some o := by
  obtain ⟨_, ⟨o, ho, _⟩, _⟩ := a; exact ⟨o, ho⟩
theorem acc_upd {s s' : Shared} {L D : Addr} {ys : List Str} (a : AccIs D ys s.heap) (u : Upd L s s') (hne : D ≠ L) : AccIs D ys s'.heap := a.at fun o e => u.kept _ _ hne e
theorem list_upd {s s' : Shared} {L D : Addr} {its : Array Value} (a : s.heap.IsList D its) (u : Upd L s s') (hne : D ≠ L) : s'.heap.IsList D its := a.at fun o e => u.kept _ _ hne e
theorem cell_ne {h : Heap} {c D : Addr} {v : Option Value} {its : Array Value} (hc : h.IsCell c v) (hl : h.IsList D its) : D ≠ c := by
  rintro rfl
  obtain ⟨o, h1, h2⟩ := hc
  obtain ⟨o', h1', _, n, h2'⟩ := hl
  rw [h1] at h1'; cases h1'
  rw [h2] at h2'; cases h2'

end
end Mine
-- KitG
namespace Mine
section
open PySem PySem.W PyProof.Rows

section
variable {prog : Program} {w : World} {A : Around} {E : Value → Shared → Prop} {s : Shared} {env : Env}

/-- a for with two names over anything that walks in pairs -/
theorem for_walk2 {elts : List Expr} {k : Nat} {tpos : Pos} {iter : Expr} {body : List Stmt} {pos : Pos} {Q : Flow → Shared → Prop}
    (h : wpAny (model prog w) A (eval iter env) (fun xv s₁ => wpAny (model prog w) A (pyIter xv) (fun it s₂ => ∃ (I : Addr) (fp wr : List Addr) (n : Nat) (P : Nat → Array Value → Prop) (St : Nat → Heap → Prop) (Mid : Nat → Addr → Heap → Prop) (J : Nat → Shared → Prop),
      it = .ref I ∧ WalksT prog w A I fp wr n P St Mid ∧ St 0 s₂.heap ∧ J 0 s₂ ∧
      (∀ i s₃ h' tk, J i s₃ → (∀ b o, b ∉ wr → s₃.heap.get? b = some o → h'.get? b = some o) → J i { s₃ with heap := h', toks := tk }) ∧
      (∀ i T vals s₃ E', i < n → P i vals → IsTup s₃.heap T vals → J i s₃ → St (i + 1) s₃.heap → wpAny (model prog w) A (assign (.Tuple elts k tpos) env (.ref T)) (fun _ s₄ => wpAny (model prog w) A (execs body env) (fun f s₅ => match f with
        | .next | .cont => J (i + 1) s₅ ∧ St (i + 1) s₅.heap
        | .brk => Q .next s₅
        | .ret v => Q (.ret v) s₅) E' s₄) E' s₃) ∧
      (∀ s₃, J n s₃ → Q .next s₃)) E s₁) E s)
    (hs : ∀ x, foldedSetIterable iter env x = pure x := by intro _; rfl) :
    wpAny (model prog w) A (exec (.For (.Tuple elts k tpos) iter body [] pos) env) Q E s := by
  refine wpAny_For (wpAny_mono h (fun xv s₁ h₁ => wpAny_mono h₁ (fun it s₂ h₂ => ?_) fun _ _ e => e) fun _ _ e => e) hs
  obtain ⟨I, fp, wr, n, P, St, Mid, J, rfl, W, hst, hj, hstab, hstep, hend⟩ := h₂
  refine codeAny_forLoop_any (fun k s' => ∃ i, k = n + 1 - i ∧ i ≤ n ∧ J i s' ∧ St i s'.heap) ?_ (n + 1) ⟨0, rfl, Nat.zero_le _, hj, hst⟩
  rintro k s' ⟨i, rfl, hi, hJ, hS⟩
  by_cases hlt : i < n
  · refine W.item i s' _ _ hlt hS fun T vals h' tk hP hT hTup hMid hk => ?_
    refine W.go _ _ _ i T _ _ _ hMid fun h'' hS' hk'' => ?_
    have hTup' : IsTup h'' T vals := by
      obtain ⟨o, ho, r⟩ := hTup
      exact ⟨o, hk'' _ o (W.apart i T h' hMid) ho, r⟩
    refine wpAny_mono (hstep i T vals _ _ hlt hP hTup' (hstab i { s' with heap := h', toks := tk } h'' tk (hstab i s' h' tk hJ hk) hk'') hS') (fun _ s₄ h₄ => wpAny_mono h₄ (fun f s₅ h₅ => ?_) fun _ _ e => e) fun _ _ e => e
    cases f with
    | next => exact ⟨n + 1 - (i + 1), by omega, i + 1, rfl, hlt, h₅.1, h₅.2⟩
    | cont => exact ⟨n + 1 - (i + 1), by omega, i + 1, rfl, hlt, h₅.1, h₅.2⟩
    | brk => exact h₅
    | ret v => exact h₅
  · have e : i = n := by omega
    subst e
    refine W.done s' _ _ hS fun h' tk hk => wpAny_execs_nil ?_
    exact hend _ (hstab i s' h' tk hJ hk)

/-- a text's head -/
theorem str_upto {value e : Expr} {p pos : Pos} {Q : Value → Shared → Prop}
    (h : wpAny (model prog w) A (eval value env) (fun o s₁ => wpAny (model prog w) A (eval e env) (fun vu s₂ => ∃ (x : Str) (t : Tok) (j : Int) (u : Tok), o = .str x t ∧ vu = .int j u ∧ x.length ≤ 1000000 ∧
        ∀ s' t', Keeps s₂ s' → Q (.str (Txt.slice x none (some j)) t') s') E s₁) E s)
    (ht : ∀ o r, letTemporaryGo value o r = pure () := by intro _ _; rfl) :
    wpAny (model prog w) A (eval (.Subscript value (.Slice none (some e) none p) pos) env) Q E s := by
  refine wpAny_Subscript_str_slice ?_ ht
  refine wpAny_mono h (fun o s₁ h₁ => ?_) fun _ _ e => e
  rw [evalPart_none]
  refine wpAny_pure ?_
  rw [evalPart_some]
  refine wpAny_mono h₁ (fun vu s₂ h₂ => ?_) fun _ _ e => e
  obtain ⟨x, t, j, u, rfl, rfl, hx, hQ⟩ := h₂
  refine ⟨x, t, none, some (j, u), rfl, rfl, rfl, ?_⟩
  exact post_val_or_str ⟨Nat.le_trans (Txt.slice_le x _ _) (by rw [sizeLine_eq]; omega), fun t' k => hQ _ t' ⟨_, k, rfl, fun b o e => Heap.get?_push_of_some _ e⟩⟩

/-- a list from its end -/
theorem list_rev {value e : Expr} {p pos : Pos} {Q : Value → Shared → Prop}
    (h : wpAny (model prog w) A (eval value env) (fun o s₁ => wpAny (model prog w) A (eval e env) (fun vk s₃ =>
      ∃ l items u, o = .ref l ∧ s₃.heap.IsList l items ∧ items.size ≤ sizeLine ∧ vk = .int (-1) u ∧
        ∀ s' D, Keeps s₃ s' → s'.heap.IsList D items.toList.reverse.toArray → s₃.heap.get? D = none → Q (.ref D) s') E s₁) E s) :
    wpAny (model prog w) A (eval (.Subscript value (.Slice none none (some e) p) pos) env) Q E s := by
  refine Subscript_ (wpAny_mono h (fun o s₁ h₁ => wpAny_Slice ?_) fun _ _ e => e)
  rw [evalPart_none]
  refine wpAny_pure ?_
  refine wpAny_pure ?_
  rw [evalPart_some]
  refine wpAny_mono h₁ (fun vk s₃ h₃ => ?_) fun _ _ e => e
  obtain ⟨l, items, u, rfl, hl, hsz, rfl, hQ⟩ := h₃
  refine tail_any (ops := [.ref l, .ref s₃.heap.objs.size]) (hl.push _).typeIs slot_list_getitem.lookup (wpAny_getItem_list_slice (hl.push _) (Heap.IsSliceOf.new ..) .none .none (.int _ _) (by decide) ?_ hsz) rfl
  rw [krv_pick]
  refine hQ _ _ ⟨_, _, rfl, fun b o e => Heap.get?_push_of_some _ (Heap.get?_push_of_some _ e)⟩ ⟨_, Heap.get?_push_size _ rfl, rfl, _, rfl⟩ ?_
  exact Heap.get?_none_of_le (by rw [Heap.size_push]; exact Nat.le_succ _)

/-- a list's last item -/
theorem list_last {value e : Expr} {pos : Pos} {Q : Value → Shared → Prop}
    (h : wpAny (model prog w) A (eval value env) (fun o s₁ => wpAny (model prog w) A (eval e env) (fun i s₂ => ∃ (t : Addr) (vs : List Value) (u : Tok) (x : Value), o = .ref t ∧ i = .int (-1) u ∧ s₂.heap.IsList t (vs ++ [x]).toArray ∧ vs.length ≤ 1000000 ∧ Q x s₂) E s₁) E s)
    (hs : noSlice e = true := by rfl) :
    wpAny (model prog w) A (eval (.Subscript value e pos) env) Q E s := by
  refine Subscript_ (wpAny_mono h (fun o s₁ h₁ => wpAny_mono h₁ (fun i s₂ h₂ => ?_) fun _ _ e => e) fun _ _ e => e)
  obtain ⟨t, vs, u, x, rfl, rfl, ht, hsz, hQ⟩ := h₂
  have hl : (vs ++ [x]).toArray.size = vs.length + 1 := by simp
  refine tail_any (ops := [.ref t, .int (-1) u]) ht.typeIs slot_list_getitem.lookup (wpAny_getItem_list_neg ht (by decide) (by rw [hl]; omega) (by decide) ?_ hQ) (subs_plain hs _ _)
  rw [hl]
  have e : (-1 + ((vs.length + 1 : Nat) : Int)).toNat = vs.length := by omega
  rw [e]
  simp
end

/-- a list of texts that may grow -/
def PAcc (D : Addr) (ys : List Str) (h : Heap) : Prop := ∃ items, PlainL h D items ∧ StrsAre items.toList ys
theorem PAcc.acc {D : Addr} {ys : List Str} {h : Heap} (a : PAcc D ys h) : AccIs D ys h := by
  obtain ⟨i, p, q⟩ := a; exact ⟨i, p.isList, q⟩
theorem PAcc.at {D : Addr} {ys : List Str} {h h' : Heap} (a : PAcc D ys h) (k : ∀ o, h.get? D = some o → h'.get? D = some o) : PAcc D ys h' := by
  obtain ⟨i, ⟨o, n, e, r⟩, q⟩ := a; exact ⟨i, ⟨o, n, k o e, r⟩, q⟩
theorem PAcc.some {D : Addr} {ys : List Str} {h : Heap} (a : PAcc D ys h) : ∃ o, h.get? D = some o := by
  obtain ⟨i, ⟨o, n, e, r⟩, q⟩ := a; exact ⟨o, e⟩
inductive Blks (h : Heap) : List Addr → List (List Str) → Prop
  | nil : Blks h [] []
  | cons {a : Addr} {b : List Str} {as : List Addr} {bs : List (List Str)} : PAcc a b h → Blks h as bs → Blks h (a :: as) (b :: bs)
theorem Blks.len {h : Heap} {as : List Addr} {bs : List (List Str)} (x : Blks h as bs) : as.length = bs.length := by
  induction x with
  | nil => rfl
  | cons _ _ ih => simp [ih]
theorem Blks.at {h h' : Heap} {as : List Addr} {bs : List (List Str)} (x : Blks h as bs) (k : ∀ a ∈ as, ∀ o, h.get? a = some o → h'.get? a = some o) : Blks h' as bs := by
  induction x with
  | nil => exact .nil
  | cons h1 _ ih => exact .cons (h1.at fun o e => k _ (.head _) o e) (ih fun a ha o e => k a (.tail _ ha) o e)
theorem Blks.keeps {h h' : Heap} {as : List Addr} {bs : List (List Str)} (x : Blks h as bs) (k : ∀ a o, h.get? a = some o → h'.get? a = some o) : Blks h' as bs := x.at fun a _ o e => k a o e
theorem Blks.get {h : Heap} {as : List Addr} {bs : List (List Str)} (x : Blks h as bs) : ∀ {i : Nat} {a : Addr}, as[i]? = some a → ∃ b, bs[i]? = some b ∧ PAcc a b h := by
  induction x with
  | nil => intro i a e; simp at e
  | cons h1 _ ih =>
    intro i a e
    cases i with
    | zero => cases e; exact ⟨_, rfl, h1⟩
    | succ i => exact ih e
theorem Blks.some {h : Heap} {as : List Addr} {bs : List (List Str)} (x : Blks h as bs) : ∀ a ∈ as, ∃ o, h.get? a = some o := by
  intro a ha
  obtain ⟨i, e⟩ := List.getElem?_of_mem ha
  obtain ⟨b, _, p⟩ := x.get e
  exact p.some
theorem Blks.append {h : Heap} {as as' : List Addr} {bs bs' : List (List Str)} (x : Blks h as bs) (y : Blks h as' bs') : Blks h (as ++ as') (bs ++ bs') := by
  induction x with
  | nil => exact y
  | cons h1 _ ih => exact .cons h1 ih
theorem Blks.reverse {h : Heap} {as : List Addr} {bs : List (List Str)} (x : Blks h as bs) : Blks h as.reverse bs.reverse := by
  induction x with
  | nil => exact .nil
  | cons h1 _ ih => rw [List.reverse_cons, List.reverse_cons]; exact ih.append (.cons h1 .nil)
theorem Blks.split {h : Heap} : ∀ {as as' : List Addr} {bs : List (List Str)}, Blks h (as ++ as') bs → ∃ b1 b2, bs = b1 ++ b2 ∧ Blks h as b1 ∧ Blks h as' b2
  | [], as', bs, x => ⟨[], bs, rfl, .nil, x⟩
  | a :: as, as', _, .cons h1 r => by
    obtain ⟨b1, b2, e, x1, x2⟩ := Blks.split r
    exact ⟨_ :: b1, b2, by rw [e]; rfl, .cons h1 x1, x2⟩
section
variable {prog : Program} {w : World} {A : Around} {E : Value → Shared → Prop} {s : Shared} {env : Env} {Q : Value → Shared → Prop}
theorem len_k {l : Addr} {items : Array Value} (hl : s.heap.IsList l items) (hfit : items.size ≤ 1000000) (h : ∀ s' t, Keeps s s' → Q (.int (items.size : Nat) t) s') : wpAny (model prog w) A (call (.builtin "len") [.ref l]) Q E s :=
  len_list hl (by omega) (h _ _ (kp_toks s _))
theorem ci_k {i : Int} {k : Nat} {p : Pos} (h : ∀ s' t, Keeps s s' → Q (.int i t) s') : wpAny (model prog w) A (eval (.Constant (.int i) k p) env) Q E s := wpAny_Constant_int (h _ _ (kp_toks s _))
theorem cs_k {x : Str} {k : Nat} {p : Pos} (h : ∀ s' t, Keeps s s' → Q (.str x t) s') : wpAny (model prog w) A (eval (.Constant (.str x) k p) env) Q E s := wpAny_Constant_str (h _ _ (kp_toks s _))
theorem add_k {a b : Int} {t u : Tok} (h : ∀ s' t', Keeps s s' → Q (.int (a + b) t') s') : wpAny (model prog w) A (binaryOp .Add (.int a t) (.int b u)) Q E s := add_int (h _ _ (kp_toks s _))
theorem iadd_k {a b : Int} {t u : Tok} (h : ∀ s' t', Keeps s s' → Q (.int (a + b) t') s') : wpAny (model prog w) A (inplaceOp .Add (.int a t) (.int b u)) Q E s := iadd_int (h _ _ (kp_toks s _))
theorem sub_k {a b : Int} {t u : Tok} (h : ∀ s' t', Keeps s s' → Q (.int (a - b) t') s') : wpAny (model prog w) A (binaryOp .Sub (.int a t) (.int b u)) Q E s := sub_int (h _ _ (kp_toks s _))
theorem mul_k {a b : Int} {t u : Tok} (h0 : -1000000 ≤ a) (h1 : a ≤ 1000000) (h : ∀ s' t', Keeps s s' → Q (.int (a * b) t') s') : wpAny (model prog w) A (binaryOp .Mult (.int a t) (.int b u)) Q E s := mul_int (h _ _ (kp_toks s _)) (IntMulOk.of_left (intBits_le_64 (by omega) (by omega)))
theorem imul_k {a b : Int} {t u : Tok} (h0 : -1000000 ≤ a) (h1 : a ≤ 1000000) (h : ∀ s' t', Keeps s s' → Q (.int (a * b) t') s') : wpAny (model prog w) A (inplaceOp .Mult (.int a t) (.int b u)) Q E s := imul_int (h _ _ (kp_toks s _)) (IntMulOk.of_left (intBits_le_64 (by omega) (by omega)))
theorem mod_k {a b : Int} {t u : Tok} (hb : b ≠ 0) (h : ∀ s' t', Keeps s s' → Q (.int (a.fmod b) t') s') : wpAny (model prog w) A (binaryOp .Mod (.int a t) (.int b u)) Q E s := mod_int' (by simpa using hb) (h _ _ (kp_toks s _))
theorem fdiv_k {a b : Int} {t u : Tok} (hb : b ≠ 0) (h2 : 0 ≤ b) (h3 : b ≤ 1000000) (h : ∀ s' t', Keeps s s' → Q (.int (a.fdiv b) t') s') : wpAny (model prog w) A (binaryOp .FloorDiv (.int a t) (.int b u)) Q E s := floordiv_int (by simpa using hb) (h _ _ (kp_toks s _))
theorem ifdiv_k {a b : Int} {t u : Tok} (hb : b ≠ 0) (h2 : 0 ≤ b) (h3 : b ≤ 1000000) (h : ∀ s' t', Keeps s s' → Q (.int (a.fdiv b) t') s') : wpAny (model prog w) A (inplaceOp .FloorDiv (.int a t) (.int b u)) Q E s := ifloordiv_int (by simpa using hb) (h _ _ (kp_toks s _))
end
end
end Mine
-- PureR
namespace Mine
section
open PySem PyProof.Rows

/-- the number of places of some blocks, less one -/
def cntB : List Nat → Nat
  | [] => 1
  | n :: r => (n + 1) * cntB r
theorem cntB_pos : ∀ l : List Nat, 1 ≤ cntB l
  | [] => Nat.le_refl _
  | n :: r => Nat.mul_pos (Nat.succ_pos n) (cntB_pos r)
theorem cntB_append (a b : List Nat) : cntB (a ++ b) = cntB a * cntB b := by
  induction a with
  | nil => simp [cntB]
  | cons n r ih => show (n + 1) * cntB (r ++ b) = (n + 1) * cntB r * cntB b; rw [ih, Nat.mul_assoc]
theorem cntB_reverse (a : List Nat) : cntB a.reverse = cntB a := by
  induction a with
  | nil => rfl
  | cons n r ih => rw [List.reverse_cons, cntB_append, ih]; show cntB r * ((n + 1) * 1) = (n + 1) * cntB r; rw [Nat.mul_one, Nat.mul_comm]
theorem cntB_take (a : List Nat) (i : Nat) : cntB (a.take i) ≤ cntB a := by
  have h := cntB_append (a.take i) (a.drop i)
  rw [List.take_append_drop] at h
  rw [h]
  exact Nat.le_mul_of_pos_right _ (cntB_pos _)

/-- the row at a place; the last block stands first -/
def ra (bord : List (List Nat)) : List (List (List Nat)) → Nat → List Nat
  | [], p => bord.getD p []
  | b :: bs, p => if p % (b.length + 1) = 0 then rowT 1 (ra bord bs (p / (b.length + 1))) else rowT 1 (b.getD (p % (b.length + 1) - 1) [])

theorem rowT_add (d e : Nat) (r : List Nat) : rowT d (rowT e r) = rowT (d + e) r := by
  unfold rowT
  by_cases h : r.head? = some 46
  · simp only [if_pos h]
    have h2 : (List.replicate e 46 ++ r).head? = some 46 := by
      cases e with
      | zero => simpa using h
      | succ e => rfl
    rw [if_pos h2, ← List.append_assoc, List.replicate_append_replicate]
  · simp only [if_neg h]
theorem rowT_len (d : Nat) (r : List Nat) : (rowT d r).length ≤ d + r.length := by
  unfold rowT; split <;> simp
end
end Mine
-- Q02c
namespace Mine
section
open PySem PySem.W PyProof.Rows
section
variable {w : World} {A : Around} {E : Value → Shared → Prop} {s : Shared} {mg mb : Str → Option Value}

def szs (bs : List (List Str)) : List Nat := bs.map (·.length)
def LLL (b : List Str) : List (List Nat) := b.map (·.cps.toList)

theorem count_spec {D : Addr} {as : List Addr} {bs : List (List Str)} {R : Result → Shared → Prop} (W : Wd (KK w) mg mb s.heap) (hroom : A.depth < recursionLimit) (hh : A.handled = none)
    (hD : s.heap.IsList D (as.map Value.ref).toArray) (hB : Blks s.heap as bs) (hn : cntB (szs bs) ≤ 1000000)
    (h : ∀ s' t', Keeps s s' → R (.ok (.ret (.int (cntB (szs bs) : Nat) t'))) s') :
    codeAny (model PP w) A (.call (.ref 62) ⟨[.ref D], []⟩) R s := by
  have hsl : sizeLine = 16777216 := sizeLine_eq
  refine call_plain_ret (by omega) (W.X 62 _ rfl) rfl W.nolimit (codeRec_of W.X rfl) (binds := [("blocks", .ref D)]) rfl (locs rfl) (fun h₁ F₀ => ?_)
  refine wpAny_execs_cons (wpAny_Assign_Name (wpAny_Constant_int (stl F₀ fun s₄ F₄ u₄ => ?_)))
  have hsame₄ : ∃ h' tk', s₄ = { s with heap := h', toks := tk' } := by
    obtain ⟨_, _, rfl, _⟩ := u₄; exact ⟨_, _, rfl⟩
  have hD₄ : s₄.heap.IsList D (as.map Value.ref).toArray := hD.at fun o e => F₄.keep _ _ e
  refine wpAny_execs_cons (for_walk (ldl F₄.ns rfl (pyIter_list hD₄ fun s₅ I k₅ hI hit hl hne => ?_)))
  have F₅ := fr_keeps F₄ (kp_kept k₅)
  have hIL : I ≠ s.heap.objs.size := by
    rintro rfl
    obtain ⟨o, _, _, ho, _⟩ := F₄.ns
    have ho' : s₄.heap.get? s.heap.objs.size = some o := ho
    rw [hI] at ho'; cases ho'
  have hI0 : s.heap.get? I = none := by
    cases q : s.heap.get? I with
    | none => rfl
    | some o => have := F₄.keep _ _ q; rw [hI] at this; cases this
  have hsame₅ : ∃ h' tk', s₅ = { s with heap := h', toks := tk' } := by
    obtain ⟨_, _, rfl⟩ := hsame₄; obtain ⟨_, _, rfl, _⟩ := k₅; exact ⟨_, _, rfl⟩
  refine ⟨I, _, _, _, _, _, fun i s' => ∃ (mm : Str → Option Value), Fr s.heap s.heap.objs.size s'.heap mm ∧ (∃ ta, mm "count" = some (.int (cntB ((szs bs).take i) : Nat) ta)) ∧ ∃ h' tk', s' = { s with heap := h', toks := tk' },
    rfl, Walks.list (by exact hh) I D hne _, ⟨hit, hl⟩, ?_, ?_, ?_, ?_⟩
  · exact ⟨_, F₅, ⟨_, rfl⟩, hsame₅⟩
  · rintro i s' h' tk ⟨mm, F, ⟨ta, a1⟩, hs1, hs2, rfl⟩ hk
    refine ⟨mm, ⟨F.ns.at' fun o e => hk _ o (by simpa using Ne.symm hIL) e, fun b o e => hk b o ?_ (F.keep b o e), F.above⟩, ⟨ta, a1⟩, _, _, rfl⟩
    intro hb
    have hb' : b = I := by simpa using hb
    rw [hb', hI0] at e; cases e
  · rintro i v s' E' hi' hv ⟨mm, F, ⟨ta, a1⟩, hs1, hs2, rfl⟩ ⟨hit', hl'⟩
    have hv' : (as.map Value.ref)[i]? = some v := by simpa using hv
    rw [List.getElem?_map] at hv'
    obtain ⟨a, ha, rfl⟩ := Option.map_eq_some_iff.mp hv'
    obtain ⟨b, hb, hP⟩ := hB.get ha
    have hilt : i < bs.length := (List.getElem?_eq_some_iff.mp hb).1
    have htk : cntB ((szs bs).take (i + 1)) = cntB ((szs bs).take i) * (b.length + 1) := by
      rw [List.take_add_one]
      have e : (szs bs)[i]? = some b.length := by unfold szs; rw [List.getElem?_map, hb]; rfl
      rw [e, cntB_append]
      show _ * ((b.length + 1) * 1) = _
      rw [Nat.mul_one]
    have hle := Nat.le_trans (cntB_take (szs bs) (i + 1)) hn
    have hle0 := Nat.le_trans (cntB_take (szs bs) i) hn
    have hpos := cntB_pos ((szs bs).take i)
    have hbl : b.length + 1 ≤ 1000000 := by
      have := Nat.mul_le_mul hpos (Nat.le_refl (b.length + 1))
      omega
    refine wpAny_assign_Name (stl F fun s₆ F₆ u₆ => ?_)
    have hP₆ : PAcc a b s₆.heap := hP.at fun o e => F₆.keep _ _ e
    obtain ⟨its, hpl, hst⟩ := hP₆
    have hsz : its.size = b.length := by have := hst.len_eq; simpa using this
    have W₆ : Wd (KK w) mg mb s₆.heap := W.keeps F₆.keep
    refine wpAny_execs_cons (wpAny_AugAssign_Name ?_)
    refine wpAny_loadName_local rfl rfl F₆.ns (by exact a1) ?_
    refine wpAny_BinOp ?_
    refine Call_b1 W₆ (by rfl) boot_len (by decide) ?_
    refine ldl F₆.ns (by rfl) ?_
    refine len_k hpl.isList (by omega) fun s₈ t₈ k₈ => ?_
    refine ci_k fun s₉ t₉ k₉ => ?_
    refine add_k fun s₁₀ t₁₀ k₁₀ => ?_
    refine imul_k (by omega) (by omega) fun s₁₁ t₁₁ k₁₁ => ?_
    have ev : ((cntB ((szs bs).take i) : Nat) : Int) * ((its.size : Int) + 1) = ((cntB ((szs bs).take (i + 1)) : Nat) : Int) := by
      rw [htk, hsz]; push_cast; rfl
    rw [ev]
    have kt := kp_trans (kp_trans (kp_trans k₈ k₉) k₁₀) k₁₁
    refine stl (fr_keeps F₆ (kp_kept kt)) fun s₇ F₇ u₇ => ?_
    refine wpAny_execs_nil ?_
    have uu := (u₆.trans (Upd.of kt)).trans u₇
    refine ⟨⟨_, F₇, ⟨_, rfl⟩, ?_⟩, hit'.at fun o e => uu.kept _ o hIL e, hl'.at fun o e => uu.kept _ o (ne_list F.ns hl') e⟩
    obtain ⟨_, _, e, _⟩ := uu; exact ⟨_, _, e⟩
  · rintro s' ⟨mm, F, ⟨ta, a1⟩, hs1, hs2, rfl⟩
    refine wpAny_execs_cons (wpAny_Return_some (ldl F.ns (by exact a1) ?_))
    have hsz : (as.map Value.ref).toArray.size = bs.length := by simp [hB.len]
    have e : (szs bs).take (as.map Value.ref).toArray.size = szs bs := by
      rw [hsz, List.take_of_length_le (by simp [szs])]
    rw [e]
    exact h _ _ ⟨_, _, rfl, F.keep⟩
end
end
end Mine
-- Q02d
namespace Mine
section
open PySem PySem.W PyProof.Rows

theorem head_slice (x : Str) : (Txt.slice x none (some 1)).cps.toList = x.cps.toList.take 1 := by
  have e : x.cps.toList.length = x.length := by simp [Str.length]
  by_cases h : 1 ≤ x.length
  · have := eq_of_beq (slice_closes_toL (x := x) (j := 1) (by omega) (by omega))
    rw [this]; simp
  · have h0 : x.length = 0 := by omega
    rw [slice_to_beyond (x := x) (j := 1) (by omega)]
    have := eq_of_beq (slice_closes_toL (x := x) (j := (x.length : Int)) (by omega) (by omega))
    rw [this]
    have : x.cps.toList = [] := List.eq_nil_of_length_eq_zero (by omega)
    rw [this]; simp
theorem head_dot (x : Str) : (Txt.slice x none (some 1) == Str.ofString ".") = true ↔ x.cps.toList.head? = some 46 := by
  have ed : (Str.ofString ".").cps.toList = [46] := by decide +kernel
  rw [beq_iff_eq]
  constructor
  · intro q
    have := congrArg (fun z : Str => z.cps.toList) q
    simp only [head_slice, ed] at this
    cases hx : x.cps.toList with
    | nil => rw [hx] at this; simp at this
    | cons c r => rw [hx] at this; simp at this; simp [this]
  · intro q
    apply Str.ext'
    apply Array.toList_inj.mp
    rw [head_slice, ed]
    cases hx : x.cps.toList with
    | nil => rw [hx] at q; simp at q
    | cons c r => rw [hx] at q; simp at q; simp [q]

section
variable {w : World} {A : Around} {E : Value → Shared → Prop} {s : Shared} {mg mb : Str → Option Value}

theorem sent_spec {x : Str} {d : Nat} {tx td : Tok} {R : Result → Shared → Prop} (W : Wd (KK w) mg mb s.heap) (hroom : A.depth < recursionLimit) (hx : x.length ≤ 1000) (hd : d ≤ 1000)
    (h : ∀ s' t', Keeps s s' → R (.ok (.ret (.str ⟨(rowT d x.cps.toList).toArray⟩ t'))) s') :
    codeAny (model PP w) A (.call (.ref 69) ⟨[.str x tx, .int (d : Nat) td], []⟩) R s := by
  refine call_plain_ret (by omega) (W.X 69 _ rfl) rfl W.nolimit (codeRec_of W.X rfl) (binds := [("row", .str x tx), ("often", .int (d : Nat) td)]) rfl (locs rfl) (fun h₁ F₀ => ?_)
  refine wpAny_execs_cons ?_
  refine wpAny_Return_some ?_
  refine wpAny_IfExp ?_
  refine wpAny_isTrue_Compare1 ?_
  refine str_upto ?_
  refine ldl F₀.ns rfl ?_
  refine ci_k fun s₁ t₁ k₁ => ⟨x, tx, 1, t₁, rfl, rfl, by omega, fun s₂ t₂ k₂ => ?_⟩
  refine cs_k fun s₃ t₃ k₃ => ?_
  refine eq_str (wpAny_truthy_bool ?_)
  have kk := kp_trans (kp_trans k₁ k₂) k₃
  have F₃ := fr_keeps F₀ (kp_kept kk)
  have base : Keeps s s₃ := by
    obtain ⟨h₃, tk₃, rfl, kk'⟩ := kk
    exact ⟨h₃, tk₃, rfl, fun b o e => kk' b o (F₀.keep b o e)⟩
  by_cases hc : x.cps.toList.head? = some 46
  · rw [if_pos ((head_dot x).mpr hc)]
    refine wpAny_BinOp ?_
    refine wpAny_BinOp ?_
    refine cs_k fun s₄ t₄ k₄ => ?_
    have F₄ := fr_keeps F₃ (kp_kept k₄)
    refine ldl F₄.ns rfl ?_
    refine mul_str_k (by decide +kernel) (by omega) (by omega) fun s₅ t₅ k₅ => ?_
    have F₅ := fr_keeps F₄ (kp_kept k₅)
    refine ldl F₅.ns rfl ?_
    have hml : (Txt.mul (Str.ofString ".") (d : Int)).cps.toList = List.replicate d 46 := by
      have ed : (Str.ofString ".").cps.toList = [46] := by decide +kernel
      rw [mul_list, ed, Int.toNat_natCast]
      clear hd h
      induction d with
      | zero => rfl
      | succ k ih => simp [List.replicate_succ] at *
    have e1 : (Txt.mul (Str.ofString ".") (d : Int)).length = d := by
      have := congrArg List.length hml
      simpa [Str.length] using this
    refine add_str_k (by omega) fun s₆ t₆ k₆ => ?_
    have e : Txt.mul (Str.ofString ".") (d : Int) ++ x = ⟨(rowT d x.cps.toList).toArray⟩ := by
      apply Str.ext'
      apply Array.toList_inj.mp
      rw [Str.cps_append, Array.toList_append, hml]
      unfold rowT; rw [if_pos hc]
    rw [e]
    exact h _ _ (kp_trans (kp_trans (kp_trans base k₄) k₅) k₆)
  · rw [if_neg (fun q => hc ((head_dot x).mp q))]
    refine ldl F₃.ns rfl ?_
    have e : x = ⟨(rowT d x.cps.toList).toArray⟩ := by
      apply Str.ext'
      apply Array.toList_inj.mp
      unfold rowT; rw [if_neg hc]
    have := h s₃ tx base
    rw [← e] at this
    exact this
end
end
end Mine
-- Q02e
namespace Mine
section
open PySem PySem.W PyProof.Rows

section
variable {w : World} {A : Around} {E : Value → Shared → Prop} {s : Shared} {mg mb : Str → Option Value}

theorem fmod_nat (a b : Nat) : (a : Int).fmod (b : Int) = ((a % b : Nat) : Int) := by
  rw [Int.fmod_eq_emod_of_nonneg _ (by omega)]; rfl
theorem fdiv_nat (a b : Nat) : (a : Int).fdiv (b : Int) = ((a / b : Nat) : Int) := by
  rw [Int.fdiv_eq_ediv_of_nonneg _ (by omega)]; rfl

set_option maxHeartbeats 1000000 in
theorem row_spec {D Db : Addr} {as : List Addr} {bs : List (List Str)} {ib : Array Value} {brd : List Str} {p : Nat} {tp : Tok} {R : Result → Shared → Prop} (W : Wd (KK w) mg mb s.heap) (hroom : A.depth + 1 < recursionLimit) (hh : A.handled = none)
    (hD : s.heap.IsList D (as.map Value.ref).toArray) (hB : Blks s.heap as bs) (hb : s.heap.IsList Db ib) (hib : StrsAre ib.toList brd) (hb2 : brd.length = 2)
    (hn : cntB (szs bs) ≤ 1000) (hp : p ≤ cntB (szs bs)) (hbl : bs.length ≤ 100) (hrl : ∀ b ∈ bs, ∀ r ∈ b, r.length ≤ 1000) (hrb : ∀ r ∈ brd, r.length ≤ 1000)
    (h : ∀ s' t', Keeps s s' → R (.ok (.ret (.str ⟨(ra (LLL brd) (bs.reverse.map LLL) p).toArray⟩ t'))) s') :
    codeAny (model PP w) A (.call (.ref 76) ⟨[.int (p : Nat) tp, .ref D, .ref Db], []⟩) R s := by
  have hsl : sizeLine = 16777216 := sizeLine_eq
  refine call_plain_ret (by omega) (W.X 76 _ rfl) rfl W.nolimit (codeRec_of W.X rfl) (binds := [("place", .int (p : Nat) tp), ("blocks", .ref D), ("borders", .ref Db)]) rfl (locs rfl) (fun h₁ F₀ => ?_)
  refine wpAny_execs_cons (wpAny_Assign_Name (wpAny_Constant_int (stl F₀ fun s₄ F₄ u₄ => ?_)))
  have hsame₄ : ∃ h' tk', s₄ = { s with heap := h', toks := tk' } := by
    obtain ⟨_, _, rfl, _⟩ := u₄; exact ⟨_, _, rfl⟩
  have hD₄ : s₄.heap.IsList D (as.map Value.ref).toArray := hD.at fun o e => F₄.keep _ _ e
  have hal : as.length = bs.length := hB.len
  refine wpAny_execs_cons ?_
  refine for_walk ?_
  refine list_rev ?_
  refine ldl F₄.ns rfl ?_
  refine wpAny_UnaryOp (ci_k fun s₄₁ t₄₁ k₄₁ => neg_int ?_)
  have k₄₁' : Keeps s₄ { s₄₁ with toks := s₄₁.toks + 1 } := kp_trans k₄₁ (kp_toks _ _)
  refine ⟨D, _, _, rfl, hD₄.at fun o e => kp_kept k₄₁' _ _ e, by simp; omega, rfl, fun s₄₂ D₂ k₄₂ hD₂ hD₂f => ?_⟩
  have k₄₂' := kp_trans k₄₁' k₄₂
  have hrev : (as.map Value.ref).toArray.toList.reverse = as.reverse.map Value.ref := by simp
  rw [hrev] at hD₂
  refine pyIter_list hD₂ fun s₅ I k₅ hI hit hl hne => ?_
  have k₅' := kp_trans k₄₂' k₅
  have F₄₂ := fr_keeps F₄ (kp_kept k₄₂')
  have F₅ := fr_keeps F₄ (kp_kept k₅')
  have hIL : I ≠ s.heap.objs.size := by
    rintro rfl
    obtain ⟨o, _, _, ho, _⟩ := F₄₂.ns
    have ho' : s₄₂.heap.get? s.heap.objs.size = some o := ho
    rw [hI] at ho'; cases ho'
  have hI0 : s.heap.get? I = none := by
    cases q : s.heap.get? I with
    | none => rfl
    | some o => have := F₄₂.keep _ _ q; rw [hI] at this; cases this
  have hsame₅ : ∃ h' tk', s₅ = { s with heap := h', toks := tk' } := by
    obtain ⟨_, _, rfl⟩ := hsame₄; obtain ⟨_, _, rfl, _⟩ := k₅'; exact ⟨_, _, rfl⟩
  have hBr := hB.reverse
  generalize hrbs : bs.reverse = rb at *
  have hnr : cntB (szs rb) = cntB (szs bs) := by
    rw [← hrbs]; unfold szs; rw [List.map_reverse, cntB_reverse]
  have hrll : rb.length = bs.length := by rw [← hrbs, List.length_reverse]
  have hrlr : ∀ b ∈ rb, ∀ r ∈ b, r.length ≤ 1000 := fun b hb' => hrl b (by rw [← hrbs] at hb'; exact List.mem_reverse.mp hb')
  refine ⟨I, _, _, _, _, _, fun i s' => ∃ (q : Nat) (mm : Str → Option Value), Fr s.heap s.heap.objs.size s'.heap mm ∧ (∃ ta, mm "often" = some (.int (i : Nat) ta)) ∧ (∃ ta, mm "place" = some (.int (q : Nat) ta)) ∧ mm "borders" = some (.ref Db) ∧
    q ≤ cntB (szs (rb.drop i)) ∧ rowT i (ra (LLL brd) ((rb.drop i).map LLL) q) = ra (LLL brd) (rb.map LLL) p ∧ ∃ h' tk', s' = { s with heap := h', toks := tk' },
    rfl, Walks.list (by exact hh) I D₂ hne _, ⟨hit, hl⟩, ?_, ?_, ?_, ?_⟩
  · refine ⟨p, _, F₅, ⟨_, rfl⟩, ⟨_, rfl⟩, rfl, ?_, ?_, hsame₅⟩
    · rw [List.drop_zero, hnr]; exact hp
    · rw [List.drop_zero]; unfold rowT; split <;> simp
  · rintro i s' h' tk ⟨q, mm, F, ⟨ta, a1⟩, ⟨tb, a2⟩, a3, a4, a5, hs1, hs2, rfl⟩ hk
    refine ⟨q, mm, ⟨F.ns.at' fun o e => hk _ o (by simpa using Ne.symm hIL) e, fun b o e => hk b o ?_ (F.keep b o e), F.above⟩, ⟨ta, a1⟩, ⟨tb, a2⟩, a3, a4, a5, _, _, rfl⟩
    intro hb
    have hb' : b = I := by simpa using hb
    rw [hb', hI0] at e; cases e
  · rintro i v s' E' hi' hv ⟨q, mm, F, ⟨ta, a1⟩, ⟨tb, a2⟩, a3, a4, a5, hs1, hs2, rfl⟩ ⟨hit', hl'⟩
    have hv' : (as.reverse.map Value.ref)[i]? = some v := by simpa using hv
    rw [List.getElem?_map] at hv'
    obtain ⟨a, ha, rfl⟩ := Option.map_eq_some_iff.mp hv'
    obtain ⟨b, hb', hP⟩ := hBr.get ha
    have hilt : i < rb.length := (List.getElem?_eq_some_iff.mp hb').1
    have hmem : b ∈ rb := List.mem_of_getElem? hb'
    have hdr : rb.drop i = b :: rb.drop (i + 1) := by
      rw [List.drop_eq_getElem_cons hilt]
      congr 1
      exact (List.getElem?_eq_some_iff.mp hb').2
    rw [hdr] at a4 a5
    have a4' : q ≤ (b.length + 1) * cntB (szs (rb.drop (i + 1))) := a4
    have hcd : (b.length + 1) * cntB (szs (rb.drop (i + 1))) ≤ 1000 := by
      have h1 := cntB_append (szs (rb.take i)) (szs (rb.drop i))
      have h2 : szs (rb.take i) ++ szs (rb.drop i) = szs rb := by unfold szs; rw [← List.map_append, List.take_append_drop]
      rw [h2, hdr] at h1
      have h3 : cntB (szs (b :: rb.drop (i + 1))) = (b.length + 1) * cntB (szs (rb.drop (i + 1))) := rfl
      rw [h3, hnr] at h1
      have h4 := cntB_pos (szs (rb.take i))
      have h5 := Nat.mul_le_mul h4 (Nat.le_refl ((b.length + 1) * cntB (szs (rb.drop (i + 1)))))
      omega
    have hbl : b.length + 1 ≤ 1000 := by
      have h4 := cntB_pos (szs (rb.drop (i + 1)))
      have h5 := Nat.mul_le_mul (Nat.le_refl (b.length + 1)) h4
      omega
    refine wpAny_assign_Name (stl F fun s₆ F₆ u₆ => ?_)
    refine wpAny_execs_cons (wpAny_AugAssign_Name ?_)
    refine wpAny_loadName_local rfl rfl F₆.ns (by exact a1) ?_
    refine ci_k fun s₇ t₇ k₇ => ?_
    refine iadd_k fun s₈ t₈ k₈ => ?_
    have k₈' := kp_trans k₇ k₈
    have eo : ((i : Nat) : Int) + 1 = ((i + 1 : Nat) : Int) := by push_cast; rfl
    rw [eo]
    refine stl (fr_keeps F₆ (kp_kept k₈')) fun s₉ F₉ u₉ => ?_
    have uu₉ := (u₆.trans (Upd.of k₈')).trans u₉
    have W₉ : Wd (KK w) mg mb s₉.heap := W.keeps F₉.keep
    have hP₉ : PAcc a b s₉.heap := hP.at fun o e => F₉.keep _ _ e
    obtain ⟨its, hpl, hst⟩ := hP₉
    have hsz : its.size = b.length := by have := hst.len_eq; simpa using this
    refine wpAny_execs_cons (wpAny_Assign_Name ?_)
    refine wpAny_BinOp ?_
    refine ldl F₉.ns (by exact a2) ?_
    refine wpAny_BinOp ?_
    refine Call_b1 W₉ (by rfl) boot_len (by decide) ?_
    refine ldl F₉.ns (by rfl) ?_
    refine len_k hpl.isList (by omega) fun s₁₀ t₁₀ k₁₀ => ?_
    refine ci_k fun s₁₁ t₁₁ k₁₁ => ?_
    refine add_k fun s₁₂ t₁₂ k₁₂ => ?_
    have ea : ((its.size : Nat) : Int) + 1 = ((b.length + 1 : Nat) : Int) := by rw [hsz]; push_cast; rfl
    rw [ea]
    refine mod_k (by omega) fun s₁₃ t₁₃ k₁₃ => ?_
    rw [fmod_nat]
    have k₁₃' := kp_trans (kp_trans (kp_trans k₁₀ k₁₁) k₁₂) k₁₃
    refine stl (fr_keeps F₉ (kp_kept k₁₃')) fun s₁₄ F₁₄ u₁₄ => ?_
    have uu₁₄ := (uu₉.trans (Upd.of k₁₃')).trans u₁₄
    have W₁₄ : Wd (KK w) mg mb s₁₄.heap := W.keeps F₁₄.keep
    have hP₁₄ : PAcc a b s₁₄.heap := hP.at fun o e => F₁₄.keep _ _ e
    obtain ⟨its', hpl', hst'⟩ := hP₁₄
    have hsz' : its'.size = b.length := by have := hst'.len_eq; simpa using this
    refine wpAny_execs_cons (wpAny_If ?_)
    refine wpAny_isTrue_Compare1 ?_
    refine ldl F₁₄.ns rfl ?_
    refine ci_k fun s₁₅ t₁₅ k₁₅ => ?_
    refine gt_int (wpAny_truthy_bool ?_)
    have F₁₅ := fr_keeps F₁₄ (kp_kept k₁₅)
    have W₁₅ := W₁₄.keeps (kp_kept k₁₅)
    have hlt := Nat.mod_lt q (show 0 < b.length + 1 by omega)
    by_cases hz : q % (b.length + 1) = 0
    · rw [if_neg (by rw [hz]; simp)]
      refine wpAny_execs_nil ?_
      refine wpAny_execs_cons (wpAny_AugAssign_Name ?_)
      refine wpAny_loadName_local rfl rfl F₁₅.ns (by exact a2) ?_
      refine wpAny_BinOp ?_
      refine Call_b1 W₁₅ (by rfl) boot_len (by decide) ?_
      refine ldl F₁₅.ns (by rfl) ?_
      refine len_k (hpl'.isList.at fun o e => kp_kept k₁₅ _ _ e) (by omega) fun s₁₆ t₁₆ k₁₆ => ?_
      refine ci_k fun s₁₇ t₁₇ k₁₇ => ?_
      refine add_k fun s₁₈ t₁₈ k₁₈ => ?_
      have eb : ((its'.size : Nat) : Int) + 1 = ((b.length + 1 : Nat) : Int) := by rw [hsz']; push_cast; rfl
      rw [eb]
      refine ifdiv_k (by omega) (by omega) (by omega) fun s₁₉ t₁₉ k₁₉ => ?_
      rw [fdiv_nat]
      have k₁₉' := kp_trans (kp_trans (kp_trans (kp_trans k₁₅ k₁₆) k₁₇) k₁₈) k₁₉
      refine stl (fr_keeps F₁₄ (kp_kept k₁₉')) fun s₂₀ F₂₀ u₂₀ => ?_
      have uu := (uu₁₄.trans (Upd.of k₁₉')).trans u₂₀
      refine wpAny_execs_nil ?_
      refine ⟨⟨q / (b.length + 1), _, F₂₀, ⟨_, rfl⟩, ⟨_, rfl⟩, a3, ?_, ?_, ?_⟩, hit'.at fun o e => uu.kept _ o hIL e, hl'.at fun o e => uu.kept _ o (ne_list F.ns hl') e⟩
      · exact Nat.div_le_of_le_mul a4'
      · rw [← a5]
        show _ = rowT i (ra (LLL brd) (LLL b :: (rb.drop (i + 1)).map LLL) q)
        have el : (LLL b).length = b.length := by simp [LLL]
        rw [ra, el, if_pos hz, rowT_add]
      · obtain ⟨_, _, e, _⟩ := uu; exact ⟨_, _, e⟩
    · have hz1 : (0 : Int) < ((q % (b.length + 1) : Nat) : Int) := by omega
      rw [if_pos (decide_eq_true hz1)]
      have hk1 : q % (b.length + 1) - 1 < b.length := by omega
      obtain ⟨tr, hr⟩ := StrsAre.get' hst' hk1
      have hrm : b.getD (q % (b.length + 1) - 1) Str.empty ∈ b := by
        rw [List.getD_eq_getElem?_getD, List.getElem?_eq_getElem hk1]; exact List.getElem_mem hk1
      refine wpAny_execs_cons ?_
      refine wpAny_Return_some ?_
      refine Call_fn W₁₅ (by rfl) (by rfl) (by rfl) ?_
      refine args_cons ?_
      refine list_item ?_
      refine ldl F₁₅.ns (by rfl) ?_
      refine wpAny_BinOp ?_
      refine ldl F₁₅.ns rfl ?_
      refine ci_k fun s₁₆ t₁₆ k₁₆ => ?_
      refine sub_k fun s₁₇ t₁₇ k₁₇ => ?_
      have k₁₇' := kp_trans k₁₆ k₁₇
      have es : ((q % (b.length + 1) : Nat) : Int) - 1 = ((q % (b.length + 1) - 1 : Nat) : Int) := by omega
      rw [es]
      refine ⟨a, its', _, _, _, rfl, rfl, (hpl'.isList.at fun o e => kp_kept k₁₅ _ _ e).at fun o e => kp_kept k₁₇' _ _ e, by omega, by omega, by rw [Int.toNat_natCast, ← Array.getElem?_toList]; exact hr, ?_⟩
      have F₁₇ := fr_keeps F₁₅ (kp_kept k₁₇')
      refine args_cons (ldl F₁₇.ns rfl (args_nil ⟨k₁₇', ?_⟩))
      refine sent_spec (W₁₅.keeps (kp_kept k₁₇')) (by exact hroom) (hrlr b hmem _ hrm) (by omega) fun s₁₈ t₁₈ k₁₈ => ?_
      have er : rowT (i + 1) (b.getD (q % (b.length + 1) - 1) Str.empty).cps.toList = ra (LLL brd) (rb.map LLL) p := by
        rw [← a5]
        show _ = rowT i (ra (LLL brd) (LLL b :: (rb.drop (i + 1)).map LLL) q)
        have el : (LLL b).length = b.length := by simp [LLL]
        rw [ra, el, if_neg hz, rowT_add]
        congr 1
        unfold LLL
        rw [List.getD_eq_getElem?_getD, List.getD_eq_getElem?_getD, List.getElem?_map, List.getElem?_eq_getElem hk1]; rfl
      rw [er]
      have kf := kp_trans k₁₇' k₁₈
      obtain ⟨hf, tf, rfl, kff⟩ := kf
      refine h _ _ ⟨hf, tf, ?_, fun b o e => kff b o (F₁₅.keep b o e)⟩
      obtain ⟨_, _, e1, _⟩ := uu₁₄
      obtain ⟨_, _, rfl, _⟩ := k₁₅
      subst e1
      rfl
  · rintro s' ⟨q, mm, F, ⟨ta, a1⟩, ⟨tb, a2⟩, a3, a4, a5, hs1, hs2, rfl⟩
    have hsz : (as.reverse.map Value.ref).toArray.size = rb.length := by simp [hal, hrll]
    rw [hsz] at a1 a4 a5
    rw [List.drop_length] at a4 a5
    have a4' : q ≤ 1 := a4
    have W' : Wd (KK w) mg mb hs1 := W.keeps F.keep
    have hk1 : q < brd.length := by omega
    obtain ⟨tr, hr⟩ := StrsAre.get' hib hk1
    have hrm : brd.getD q Str.empty ∈ brd := by
      rw [List.getD_eq_getElem?_getD, List.getElem?_eq_getElem hk1]; exact List.getElem_mem hk1
    have hszb : ib.size = brd.length := by have := hib.len_eq; simpa using this
    refine wpAny_execs_cons ?_
    refine wpAny_Return_some ?_
    refine Call_fn W' (by rfl) (by rfl) (by rfl) ?_
    refine args_cons ?_
    refine list_item ?_
    refine ldl F.ns (by exact a3) ?_
    refine ldl F.ns (by exact a2) ?_
    refine ⟨Db, ib, _, _, _, rfl, rfl, hb.at fun o e => F.keep _ _ e, by omega, by omega, by rw [Int.toNat_natCast, ← Array.getElem?_toList]; exact hr, ?_⟩
    refine args_cons (ldl F.ns (by exact a1) (args_nil ⟨kp_refl _, ?_⟩))
    refine sent_spec W' (by exact hroom) (hrb _ hrm) (by omega) fun s₁₈ t₁₈ k₁₈ => ?_
    have er : rowT rb.length (brd.getD q Str.empty).cps.toList = ra (LLL brd) (rb.map LLL) p := by
      rw [← a5]
      show _ = rowT rb.length ((LLL brd).getD q [])
      congr 1
      unfold LLL
      rw [List.getD_eq_getElem?_getD, List.getD_eq_getElem?_getD, List.getElem?_map, List.getElem?_eq_getElem hk1]; rfl
    rw [er]
    obtain ⟨hf, tf, rfl, kff⟩ := k₁₈
    exact h _ _ ⟨hf, tf, rfl, fun b o e => kff b o (F.keep b o e)⟩
end
end
end Mine
-- Q02f
namespace Mine
section
open PySem PySem.W PyProof.Rows
abbrev lenv (L fa : Addr) (cd : Value) : Env := envOfC "law" (lscope PP) L fa cd

/-- the law's frame and its two cells -/
structure LS (h₀ : Heap) (L : Addr) (m : Str → Option Value) (cr cb : Option Value) (h : Heap) : Prop where
  fr : Fr h₀ L h m
  cell : h.IsCell (L + 1) cr
  cell2 : h.IsCell (L + 2) cb
theorem LS.keeps {h₀ h h' : Heap} {L : Addr} {m : Str → Option Value} {cr cb : Option Value} (S : LS h₀ L m cr cb h) (k : ∀ b o, h.get? b = some o → h'.get? b = some o) : LS h₀ L m cr cb h' :=
  ⟨fr_keeps S.fr k, S.cell.keeps k, S.cell2.keeps k⟩
theorem ne1 (L : Addr) : L + 1 ≠ L := Nat.succ_ne_self L
theorem ne2 (L : Addr) : L + 2 ≠ L := Nat.ne_of_gt (Nat.lt_add_of_pos_right (by decide))
theorem ne12 (L : Addr) : L + 1 ≠ L + 2 := Nat.ne_of_lt (Nat.lt_succ_self _)
theorem LS.upd {h₀ h h' : Heap} {L : Addr} {m m' : Str → Option Value} {cr cb : Option Value} (S : LS h₀ L m cr cb h) (k : ∀ b o, b ≠ L → h.get? b = some o → h'.get? b = some o) (hn : h'.Ns L m') : LS h₀ L m' cr cb h' :=
  ⟨⟨hn, fun b o e => k b o (Nat.ne_of_lt (Nat.lt_of_lt_of_le (Heap.lt_size e) S.fr.above)) (S.fr.keep b o e), S.fr.above⟩,
   (let ⟨o, ho, hd⟩ := S.cell; ⟨o, k _ o (ne1 L) ho, hd⟩), (let ⟨o, ho, hd⟩ := S.cell2; ⟨o, k _ o (ne2 L) ho, hd⟩)⟩
theorem LS.news {h₀ h : Heap} {L : Addr} {m : Str → Option Value} {cr cb : Option Value} (S : LS h₀ L m cr cb h) : ∃ o o', o.data = .cell cr ∧ o'.data = .cell cb ∧ News h₀ L h [(L + 1, o), (L + 2, o')] := by
  obtain ⟨o, ho, hd⟩ := S.cell
  obtain ⟨o', ho', hd'⟩ := S.cell2
  refine ⟨o, o', hd, hd', fun p hp => ?_⟩
  rcases List.mem_cons.mp hp with q | q
  · rw [q]; exact ⟨ho, ne1 L, Heap.get?_none_of_le (Nat.le_succ_of_le S.fr.above)⟩
  · rw [List.mem_singleton.mp q]; exact ⟨ho', ne2 L, Heap.get?_none_of_le (Nat.le_succ_of_le (Nat.le_succ_of_le S.fr.above))⟩

section
variable {w : World} {A : Around} {E : Value → Shared → Prop} {s : Shared} {mg mb : Str → Option Value} {h₀ : Heap} {L fa : Addr} {cd : Value} {m : Str → Option Value} {cr cb : Option Value}

theorem stLS {M : Model} {x : Str} {v : Value} {Q : Unit → Shared → Prop} (S : LS h₀ L m cr cb s.heap)
    (h : ∀ s', LS h₀ L (fun y => if y = x then some v else m y) cr cb s'.heap → Upd L s s' → Q () s')
    (hl : (lenv L fa cd).kindOf x = some .local := by rfl) : wpAny M A (storeName (lenv L fa cd) x v) Q E s :=
  wpAny_storeName_local hl S.fr.ns (fun h' hn hs => h _ (S.upd hs.extBut hn) ⟨h', _, rfl, hs.extBut⟩) (by rfl)
theorem stRows {M : Model} {v : Value} {Q : Unit → Shared → Prop} (S : LS h₀ L m cr cb s.heap)
    (h : ∀ s', LS h₀ L m (some v) cb s'.heap → Upd (L + 1) s s' → Q () s') : wpAny M A (storeName (lenv L fa cd) (Str.ofString "rows") v) Q E s := by
  refine wpAny_storeName_cell (c := L + 1) (v₀ := cr) (by rfl) (by rfl) (by rfl) S.cell fun h' hc hs => ?_
  refine h _ ⟨⟨S.fr.ns.sameBut hs (Ne.symm (ne1 L)), fun b o e => hs.extBut b o (Nat.ne_of_lt (Nat.lt_succ_of_lt (Nat.lt_of_lt_of_le (Heap.lt_size e) S.fr.above))) (S.fr.keep b o e), S.fr.above⟩, hc, ?_⟩ ⟨h', s.toks, rfl, hs.extBut⟩
  obtain ⟨o, ho, hd⟩ := S.cell2
  exact ⟨o, hs.extBut _ _ (Ne.symm (ne12 L)) ho, hd⟩
theorem stBlocks {M : Model} {v : Value} {Q : Unit → Shared → Prop} (S : LS h₀ L m cr cb s.heap)
    (h : ∀ s', LS h₀ L m cr (some v) s'.heap → Upd (L + 2) s s' → Q () s') : wpAny M A (storeName (lenv L fa cd) (Str.ofString "blocks") v) Q E s := by
  refine wpAny_storeName_cell (c := L + 2) (v₀ := cb) (by rfl) (by rfl) (by rfl) S.cell2 fun h' hc hs => ?_
  refine h _ ⟨⟨S.fr.ns.sameBut hs (Ne.symm (ne2 L)), fun b o e => hs.extBut b o (Nat.ne_of_lt (Nat.lt_succ_of_lt (Nat.lt_succ_of_lt (Nat.lt_of_lt_of_le (Heap.lt_size e) S.fr.above)))) (S.fr.keep b o e), S.fr.above⟩, ?_, hc⟩ ⟨h', s.toks, rfl, hs.extBut⟩
  obtain ⟨o, ho, hd⟩ := S.cell
  exact ⟨o, hs.extBut _ _ (ne12 L) ho, hd⟩
theorem ldRows {M : Model} {pos : Pos} {v : Value} {Q : Value → Shared → Prop} (S : LS h₀ L m (some v) cb s.heap) (h : Q v s) : wpAny M A (eval (.Name (Str.ofString "rows") pos) (lenv L fa cd)) Q E s :=
  wpAny_Name (wpAny_loadName_cell (c := L + 1) (by rfl) (by rfl) (by rfl) S.cell h) (by decide)
theorem ldBlocks {M : Model} {pos : Pos} {v : Value} {Q : Value → Shared → Prop} (S : LS h₀ L m cr (some v) s.heap) (h : Q v s) : wpAny M A (eval (.Name (Str.ofString "blocks") pos) (lenv L fa cd)) Q E s :=
  wpAny_Name (wpAny_loadName_cell (c := L + 2) (by rfl) (by rfl) (by rfl) S.cell2 h) (by decide)
end
end
end Mine
-- Q02g
namespace Mine
section
open PySem PySem.W PyProof.Rows

def dflt2 : List Int := [4, 2005, 2033, 0, 1, 2061, 0, 9]
def nums2 (ns : List Int) : List Int := (ns.take 12 ++ dflt2.drop ns.length).map (·.fmod 1000000)
def rowL (n : Int) : List Nat := List.replicate ((n.fdiv 4).fmod 3).toNat 46 ++ (if (n.fdiv 12).fmod 2 = 0 then [] else [(14 + n.fdiv 24).toNat])
def rowOf (n : Int) : Str := ⟨(rowL n).toArray⟩

theorem IntsAre.drop' : ∀ {vs : List Value} {ns : List Int}, IntsAre vs ns → ∀ k : Nat, IntsAre (vs.drop k) (ns.drop k)
  | _, _, h, 0 => h
  | _, _, .nil, _ + 1 => .nil
  | _, _, .cons n t r, k + 1 => IntsAre.drop' r k

section
variable {w : World} {A : Around} {E : Value → Shared → Prop} {s : Shared} {mg mb : Str → Option Value} {h₀ : Heap} {L fa : Addr} {cd : Value} {m : Str → Option Value} {cr cb : Option Value}

theorem new_listP {prog : Program} {vs : List Value} {Q : Value → Shared → Prop} (hsz : vs.length ≤ sizeLine) (h : ∀ s' T, Keeps s s' → PlainL s'.heap T vs.toArray → s.heap.get? T = none → Q (.ref T) s') : wpAny (model prog w) A (newList vs) Q E s :=
  wpAny_newObj_type (h _ _ ⟨_, s.toks, rfl, fun b o e => Heap.get?_push_of_some _ e⟩ ⟨_, _, Heap.get?_push_size _ rfl, rfl, rfl, rfl⟩ (Heap.get?_none_of_le (Nat.le_refl _))) (by show vs.toArray.size ≤ sizeLine; rw [List.size_toArray]; exact hsz)

set_option maxHeartbeats 1000000 in
theorem law_s0 {D₀ : Addr} {vs : List Value} {ns : List Int} {Q : Flow → Shared → Prop} (W : Wd (KK w) mg mb h₀) (S : LS h₀ L m cr cb s.heap) (hh : A.handled = none) (hm : m "script" = some (.ref D₀)) (hD : s.heap.IsList D₀ vs.toArray) (hi : IntsAre vs ns) (hn : ns.length ≤ 63)
    (h : ∀ D items s', LS h₀ L (fun z => if z = "numbers" then some (.ref D) else m z) cr cb s'.heap → s'.heap.IsList D items → IntsAre items.toList (nums2 ns) → (∃ h' tk, s' = { s with heap := h', toks := tk }) → Q .next s') :
    wpAny (model PP w) A (exec (lst PP 0) (lenv L fa cd)) Q E s := by
  have hsl : sizeLine = 16777216 := sizeLine_eq
  have hvl : vs.length = ns.length := hi.length
  refine wpAny_Assign_ListComp_map (fun _ => true) (fun v y => ∃ n t u, v = .int n t ∧ y = .int (n.fmod 1000000) u) (by kernel_rfl) hh (by decide) (by decide) (by rfl) (by decide) (by rfl) (by rfl) (by rfl) ?_
  refine wpAny_BinOp ?_
  refine list_slice ?_
  refine ldl S.fr.ns (by exact hm) ?_
  rw [evalPart_none]
  refine wpAny_pure ?_
  rw [evalPart_some]
  refine ci_k fun s₁ t₁ k₁ => ⟨D₀, _, none, some 12, rfl, hD.at fun o e => kp_kept k₁ _ _ e, by simp; omega, .none, .int _ _, fun s₂ D₂ k₂ hD₂ _ => ?_⟩
  have hpick : slicePick vs.toArray none (some 12) none = (vs.take 12).toArray := by
    have := slicePick_upto' vs.toArray 12
    simpa using this
  rw [hpick] at hD₂
  have k₂' := kp_trans k₁ k₂
  refine list_slice ?_
  refine list_ints (ns := dflt2) (by rfl) (by decide) fun s₃ T its k₃ hT hiT _ => ?_
  have k₃' := kp_trans k₂' k₃
  have S₃ := S.keeps (kp_kept k₃')
  have W₃ : Wd (KK w) mg mb s₃.heap := W.keeps S₃.fr.keep
  have hil : its.toList.length = 8 := hiT.length
  have hil' : its.size = 8 := by simpa using hil
  rw [evalPart_some]
  refine Call_b1 W₃ (by rfl) boot_len (by decide) ?_
  refine ldl S₃.fr.ns (by exact hm) ?_
  refine len_k (hD.at fun o e => kp_kept k₃' _ _ e) (by simp; omega) fun s₄ t₄ k₄ => ?_
  rw [evalPart_none]
  refine wpAny_pure ⟨T, its, some ((vs.toArray.size : Nat) : Int), none, rfl, hT.at fun o e => kp_kept k₄ _ _ e, by omega, .int _ _, .none, fun s₅ D₅ k₅ hD₅ _ => ?_⟩
  rw [slicePick_from'] at hD₅
  have k₅' := kp_trans (kp_trans k₃' k₄) k₅
  have S₅ := S.keeps (kp_kept k₅')
  obtain ⟨oc, oc', hoc, hoc', N₅⟩ := S₅.news
  have hD₂₅ : s₅.heap.IsList D₂ (vs.take 12).toArray := hD₂.at fun o e => kp_kept (kp_trans (kp_trans k₃ k₄) k₅) _ _ e
  have hvs : vs.toArray.size = ns.length := by simpa using hvl
  refine add_lists S₅.fr N₅ hD₂₅ (ws := its.toList.drop vs.toArray.size) hD₅ (fun h₆ F₆ N₆ => ?_) (by rw [List.length_take, List.length_drop]; omega)
  have hl₆ : h₆.IsList s₅.heap.objs.size (vs.take 12 ++ its.toList.drop vs.toArray.size).toArray := ⟨_, (N₆ _ (.head _)).1, rfl, _, rfl⟩
  have S₆ : LS h₀ L m cr cb h₆ := ⟨F₆, ⟨oc, (N₆ _ (.tail _ (.head _))).1, hoc⟩, ⟨oc', (N₆ _ (.tail _ (.tail _ (.head _)))).1, hoc'⟩⟩
  have hints : IntsAre (vs.take 12 ++ its.toList.drop vs.toArray.size) (ns.take 12 ++ dflt2.drop ns.length) := by
    rw [hvs]
    exact (IntsAre.take' hi 12).append (IntsAre.drop' hiT _)
  have hsame : ∃ h' tk, s₅ = { s with heap := h', toks := tk } := by
    obtain ⟨_, _, rfl, _⟩ := k₅'; exact ⟨_, _, rfl⟩
  refine ⟨_, _, m, rfl, hl₆, ?_, S₆.fr.ns, ?_, ?_, ?_⟩
  · rw [List.size_toArray, List.length_append, List.length_take, List.length_drop]; omega
  · intro C v s₇ m₇ E' hv hC hx hk
    exact wpAny_tests_nil ⟨rfl, kp_refl s₇⟩
  · intro C v s₇ m₇ E' hv _ hC hx hk
    obtain ⟨n, t, rfl, _⟩ := IntsAre.item' hints v (by simpa using hv)
    refine wpAny_BinOp (ldl hC hx (wpAny_BinOp (wpAny_Constant_int (wpAny_Constant_int (pow_int_small (by omega) (by omega) (by decide) ?_)))))
    refine mod_int' (by decide) ⟨⟨n, t, _, rfl, by rfl⟩, kp_trans (kp_trans (kp_trans (kp_toks _ _) (kp_toks _ _)) (kp_toks _ _)) (kp_toks _ _)⟩
  · intro D h' tk ys hD' hlD hP hns hk
    refine h D ys _ (S₆.upd (fun b o hb e => hk b o hb e) hns) hlD ?_ ?_
    · refine paired_ints' (f := fun n => n.fmod 1000000) ?_ hP ?_
      · rintro n t y ⟨n', t', u, e1, e2⟩
        cases e1; exact ⟨u, e2⟩
      · rw [List.filter_eq_self.mpr (fun _ _ => rfl)]; exact hints
    · obtain ⟨_, _, rfl⟩ := hsame; exact ⟨_, _, rfl⟩

set_option maxHeartbeats 1000000 in
theorem law_s1 {D : Addr} {its : Array Value} {ns : List Int} {Q : Flow → Shared → Prop} (W : Wd (KK w) mg mb h₀) (S : LS h₀ L m cr cb s.heap) (hh : A.handled = none) (hm : m "numbers" = some (.ref D)) (hD : s.heap.IsList D its) (hi : IntsAre its.toList ns) (hn : ns.length ≤ 63)
    (hr : ∀ n ∈ ns, 0 ≤ n ∧ n < 1000000)
    (h : ∀ D' items s', LS h₀ L m (some (.ref D')) cb s'.heap → s'.heap.IsList D' items → StrsAre items.toList (ns.map rowOf) → s'.heap.IsList D its → (∃ h' tk, s' = { s with heap := h', toks := tk }) → Q .next s') :
    wpAny (model PP w) A (exec (lst PP 1) (lenv L fa cd)) Q E s := by
  have hsl : sizeLine = 16777216 := sizeLine_eq
  have hil : its.size = ns.length := by have := hi.length; simpa using this
  refine wpAny_Assign_Name ?_
  refine wpAny_ListComp_map (fun _ => true) (fun v y => ∃ n t u, v = .int n t ∧ y = .str (rowOf n) u) hh (by decide) (by decide) (by rfl) (by decide) (by rfl) ?_
  refine ldl S.fr.ns (by exact hm) ⟨D, its, rfl, hD, by omega, ?_, ?_, ?_⟩
  · intro C v s₄ m₄ E' hv hC hx hk
    exact wpAny_tests_nil ⟨rfl, kp_refl s₄⟩
  · intro C v s₄ m₄ E' hv _ hC hx hk
    obtain ⟨n, t, rfl, hmem⟩ := IntsAre.item' hi v (by simpa using hv)
    obtain ⟨h1, h2⟩ := hr n hmem
    have W₄ : Wd (KK w) mg mb s₄.heap := W.keeps fun b o e => hk b o (S.fr.keep b o e)
    have q1 : 0 ≤ (n.fdiv 4).fmod 3 := Int.fmod_nonneg_of_pos _ (by omega)
    have q2 : (n.fdiv 4).fmod 3 < 3 := Int.fmod_lt_of_pos _ (by omega)
    have q3 : 0 ≤ (n.fdiv 12).fmod 2 := Int.fmod_nonneg_of_pos _ (by omega)
    have q4 : (n.fdiv 12).fmod 2 < 2 := Int.fmod_lt_of_pos _ (by omega)
    have q5 : 0 ≤ n.fdiv 24 := Int.fdiv_nonneg h1 (by omega)
    have q6 : n.fdiv 24 < 41667 := by rw [Int.fdiv_eq_ediv_of_nonneg _ (by omega)]; omega
    refine wpAny_BinOp ?_
    refine wpAny_BinOp ?_
    refine cs_k fun s₅ t₅ k₅ => ?_
    refine wpAny_BinOp ?_
    refine wpAny_BinOp ?_
    refine ldl (hC.keeps (kp_kept k₅)) hx ?_
    refine ci_k fun s₆ t₆ k₆ => ?_
    refine fdiv_k (by omega) (by omega) (by omega) fun s₇ t₇ k₇ => ?_
    refine ci_k fun s₈ t₈ k₈ => ?_
    refine mod_k (by omega) fun s₉ t₉ k₉ => ?_
    refine mul_str_k (by decide +kernel) (by omega) (by omega) fun s₁₀ t₁₀ k₁₀ => ?_
    have kk := kp_trans (kp_trans (kp_trans (kp_trans (kp_trans k₅ k₆) k₇) k₈) k₉) k₁₀
    have hC₁ := hC.keeps (kp_kept kk)
    have W₁ := W₄.keeps (kp_kept kk)
    refine list_item ?_
    refine List_ ?_
    refine args_str fun s₁₁ t₁₁ k₁₁ => ?_
    refine args_cons ?_
    refine Call_b1 (W₁.keeps (kp_kept k₁₁)) (by rfl) boot_chr (by decide) ?_
    refine wpAny_BinOp ?_
    refine ci_k fun s₁₂ t₁₂ k₁₂ => ?_
    have hC₂ := hC₁.keeps (kp_kept (kp_trans k₁₁ k₁₂))
    refine wpAny_BinOp ?_
    refine ldl hC₂ hx ?_
    refine ci_k fun s₁₃ t₁₃ k₁₃ => ?_
    refine fdiv_k (by omega) (by omega) (by omega) fun s₁₄ t₁₄ k₁₄ => ?_
    refine add_k fun s₁₅ t₁₅ k₁₅ => ?_
    refine chr_of_range (by omega) (by omega) (args_nil ?_)
    refine new_list (by show 2 ≤ _; omega) fun s₁₆ T k₁₆ hT _ => ?_
    have kl := kp_trans (kp_trans (kp_trans (kp_trans (kp_trans k₁₁ k₁₂) k₁₃) k₁₄) k₁₅) (kp_step k₁₆)
    have hC₃ := hC₁.keeps (kp_kept kl)
    refine wpAny_BinOp ?_
    refine wpAny_BinOp ?_
    refine ldl hC₃ hx ?_
    refine ci_k fun s₁₇ t₁₇ k₁₇ => ?_
    refine fdiv_k (by omega) (by omega) (by omega) fun s₁₈ t₁₈ k₁₈ => ?_
    refine ci_k fun s₁₉ t₁₉ k₁₉ => ?_
    refine mod_k (by omega) fun s₂₀ t₂₀ k₂₀ => ?_
    have kn := kp_trans (kp_trans (kp_trans k₁₇ k₁₈) k₁₉) k₂₀
    obtain ⟨z, tz, hz, hzl⟩ : ∃ z tz, ([Value.str (Str.ofString "") t₁₁, Value.str ⟨#[(14 + n.fdiv 24).toNat]⟩ s₁₅.toks] : List Value)[((n.fdiv 12).fmod 2).toNat]? = some (.str z tz) ∧ z.cps.toList = (if (n.fdiv 12).fmod 2 = 0 then [] else [(14 + n.fdiv 24).toNat]) := by
      have e0 : (Str.ofString "").cps.toList = [] := by decide +kernel
      by_cases hq : (n.fdiv 12).fmod 2 = 0
      · rw [hq]; exact ⟨_, _, rfl, by rw [if_pos rfl]; exact e0⟩
      · have : (n.fdiv 12).fmod 2 = 1 := by omega
        rw [this]; exact ⟨_, _, rfl, by simp⟩
    refine ⟨T, _, _, _, .str z tz, rfl, rfl, hT.at fun o e => kp_kept kn _ _ e, by show 2 ≤ _; omega, q3, by rw [List.getElem?_toArray]; exact hz, ?_⟩
    have hzlen : z.length ≤ 1 := by
      have : z.cps.toList.length ≤ 1 := by rw [hzl]; split <;> simp
      simpa [Str.length] using this
    have ed : (Str.ofString ".").cps.toList = [46] := by decide +kernel
    have hml : (Txt.mul (Str.ofString ".") ((n.fdiv 4).fmod 3)).cps.toList = List.replicate ((n.fdiv 4).fmod 3).toNat 46 := by
      rw [mul_list, ed]
      generalize ((n.fdiv 4).fmod 3).toNat = d
      induction d with
      | zero => rfl
      | succ k ih => simp [List.replicate_succ] at *
    have hmlen : (Txt.mul (Str.ofString ".") ((n.fdiv 4).fmod 3)).length ≤ 2 := by
      have := congrArg List.length hml
      simp only [List.length_replicate, Array.length_toList] at this
      show (Txt.mul (Str.ofString ".") ((n.fdiv 4).fmod 3)).cps.size ≤ 2
      omega
    refine add_str_k (by omega) fun s₂₁ t₂₁ k₂₁ => ⟨⟨n, t, t₂₁, rfl, ?_⟩, kp_trans (kp_trans (kp_trans kk kl) kn) k₂₁⟩
    congr 1
    apply Str.ext'
    apply Array.toList_inj.mp
    rw [Str.cps_append, Array.toList_append, hml, hzl]
    rfl
  · intro D' h' tk ys hD' hlD hP hk
    have S' : LS h₀ L m cr cb h' := S.keeps hk
    refine stRows (s := { s with heap := h', toks := tk }) S' fun s₂ S₂ u₂ => ?_
    have hne : ∀ {Z : Addr} {zs : Array Value}, h'.IsList Z zs → Z ≠ L + 1 := fun hz => cell_ne S'.cell hz
    have hD₁ : h'.IsList D its := hD.at fun o e => hk _ o e
    refine h D' ys _ S₂ (hlD.at fun o e => u₂.kept _ _ (hne hlD) e) ?_ (hD₁.at fun o e => u₂.kept _ _ (hne hD₁) e) ?_
    · refine paired_strs (f := rowOf) ?_ hP ?_
      · rintro n t y ⟨n', t', u, e1, e2⟩
        cases e1; exact ⟨u, e2⟩
      · rw [List.filter_eq_self.mpr (fun _ _ => rfl)]; exact hi
    · obtain ⟨_, _, rfl, _⟩ := u₂; exact ⟨_, _, rfl⟩

theorem law_s2 {Q : Flow → Shared → Prop} (S : LS h₀ L m cr cb s.heap)
    (h : ∀ B a s', LS h₀ L m cr (some (.ref B)) s'.heap → PlainL s'.heap B ([a].map Value.ref).toArray → Blks s'.heap [a] [[]] → s.heap.get? B = none → s.heap.get? a = none → a ≠ B → Upd (L + 2) s s' → Q .next s') :
    wpAny (model PP w) A (exec (lst PP 2) (lenv L fa cd)) Q E s := by
  have hsl : sizeLine = 16777216 := sizeLine_eq
  refine wpAny_Assign_Name ?_
  refine List_ ?_
  refine args_cons ?_
  refine List_ ?_
  refine args_nil ?_
  refine new_listP (by show 0 ≤ _; omega) fun s₁ a k₁ hp₁ hf₁ => ?_
  refine args_nil ?_
  refine new_listP (by show 1 ≤ _; omega) fun s₂ B k₂ hp₂ hf₂ => ?_
  have kk := kp_trans k₁ k₂
  have S₂ := S.keeps (kp_kept kk)
  have neB : s.heap.get? B = none := by
    cases q : s.heap.get? B with
    | none => rfl
    | some o => have := kp_kept k₁ _ _ q; rw [hf₂] at this; cases this
  have hne : a ≠ B := by
    rintro rfl
    obtain ⟨o, n, e, _⟩ := hp₁
    rw [hf₂] at e; cases e
  have hp₁₂ : PlainL s₂.heap a [].toArray := hp₁.keeps (kp_kept k₂)
  refine stBlocks S₂ fun s₃ S₃ u₃ => ?_
  refine h B a s₃ S₃ ?_ ?_ neB hf₁ hne ((Upd.of kk).trans u₃)
  · obtain ⟨o, n, e, r⟩ := id hp₂
    exact ⟨o, n, u₃.kept _ _ (cell_ne S₂.cell2 hp₂.isList) e, r⟩
  · obtain ⟨o, n, e, r⟩ := id hp₁₂
    exact .cons ⟨_, ⟨o, n, u₃.kept _ _ (cell_ne S₂.cell2 hp₁₂.isList) e, r⟩, .nil⟩ .nil
end
end
end Mine
-- Q02h
namespace Mine
section
open PySem PySem.W PyProof.Rows

def zbody (p : Program) : List Stmt := match lst p 3 with | .For _ _ b _ _ => b | _ => []

theorem plain_at {h h' : Heap} {a : Addr} {its : Array Value} (x : PlainL h a its) (k : ∀ o, h.get? a = some o → h'.get? a = some o) : PlainL h' a its :=
  let ⟨o, n, e, r⟩ := x; ⟨o, n, k o e, r⟩
theorem szs_append (a b : List (List Str)) : szs (a ++ b) = szs a ++ szs b := by unfold szs; rw [List.map_append]

section
variable {w : World} {A : Around} {E : Value → Shared → Prop} {s : Shared} {mg mb : Str → Option Value} {h₀ : Heap} {L fa : Addr} {cd : Value} {m : Str → Option Value} {cr : Option Value}

set_option maxHeartbeats 1000000 in
theorem zip_body {B a : Addr} {iniA : List Addr} {ini : List (List Str)} {last : List Str} {n : Int} {r : Str} {tn tr : Tok} {P : Str → Prop} {Q : Flow → Shared → Prop} (W : Wd (KK w) mg mb h₀) (hroom : A.depth < recursionLimit) (hh : A.handled = none)
    (S : LS h₀ L m cr (some (.ref B)) s.heap) (hm1 : m "n" = some (.int n tn)) (hm2 : m "row" = some (.str r tr))
    (hB : PlainL s.heap B ((iniA ++ [a]).map Value.ref).toArray) (hb : Blks s.heap iniA ini) (ha : PAcc a last s.heap) (hai : a ∉ iniA) (haB : ∀ x ∈ iniA ++ [a], x ≠ B)
    (hc : cntB (szs (ini ++ [last])) ≤ 24) (hl : ini.length ≤ 100) (hP : ∀ b ∈ ini ++ [last], ∀ r ∈ b, P r) (hr : P r)
    (h : ∀ s' iniA' a' ini' last', Upds [B, a] s s' → PlainL s'.heap B ((iniA' ++ [a']).map Value.ref).toArray → Blks s'.heap iniA' ini' → PAcc a' last' s'.heap → a' ∉ iniA' → (∀ x ∈ iniA' ++ [a'], x ∈ iniA ++ [a] ∨ s.heap.get? x = none) →
      cntB (szs (ini' ++ [last'])) ≤ 24 → ini'.length ≤ ini.length + 1 → (∀ b ∈ ini' ++ [last'], ∀ r ∈ b, P r) → Q .next s') :
    wpAny (model PP w) A (execs (zbody PP) (lenv L fa cd)) Q E s := by
  have hsl : sizeLine = 16777216 := sizeLine_eq
  have hlen : iniA.length = ini.length := hb.len
  have ha0 : a ≠ B := haB a (by simp)
  have hcl : cntB (szs (ini ++ [last])) = cntB (szs ini) * (last.length + 1) := by
    rw [szs_append, cntB_append]; show _ * ((last.length + 1) * 1) = _; rw [Nat.mul_one]
  have hci := cntB_pos (szs ini)
  have hll : last.length + 1 ≤ 24 := by
    have := Nat.mul_le_mul hci (Nat.le_refl (last.length + 1))
    omega
  have hci24 : cntB (szs ini) ≤ 24 := by
    have := Nat.mul_le_mul (Nat.le_refl (cntB (szs ini))) (show 1 ≤ last.length + 1 by omega)
    omega
  refine wpAny_execs_cons ?_
  refine wpAny_If ?_
  refine wpAny_isTrue_Compare1 ?_
  refine wpAny_BinOp ?_
  refine ldl S.fr.ns (by exact hm1) ?_
  refine ci_k fun s₁ t₁ k₁ => ?_
  refine mod_k (by omega) fun s₂ t₂ k₂ => ?_
  refine ci_k fun s₃ t₃ k₃ => ?_
  refine eq_int (wpAny_truthy_bool ?_)
  have k₃' := kp_trans (kp_trans k₁ k₂) k₃
  have S₃ := S.keeps (kp_kept k₃')
  have hB₃ := hB.keeps (kp_kept k₃')
  have hb₃ := hb.keeps (kp_kept k₃')
  have ha₃ : PAcc a last s₃.heap := ha.at fun o e => kp_kept k₃' _ _ e
  have W₃ : Wd (KK w) mg mb s₃.heap := W.keeps S₃.fr.keep
  by_cases hz : n.fmod 4 = 0
  · rw [if_pos (by simpa using hz)]
    refine wpAny_execs_cons ?_
    refine wpAny_Expr ?_
    refine wpAny_Call_append (by rfl) (by rfl) (by rfl) (by rfl) ?_
    refine ldBlocks S₃ ⟨B, _, rfl, hB₃, ?_⟩
    refine List_ ?_
    refine args_nil ?_
    refine new_listP (by show 0 ≤ _; omega) fun s₄ T k₄ hT hTf => ?_
    have neT : ∀ {x : Addr} {o : Obj}, s₃.heap.get? x = some o → T ≠ x := fun hx q => by rw [← q, hTf] at hx; cases hx
    have hB₄ := hB₃.keeps (kp_kept k₄)
    refine list_append_plainL hB₄ (fun h' hB' hs' => ?_) (by simp; omega)
    refine wpAny_execs_nil (wpAny_execs_nil ?_)
    have neTB : T ≠ B := by obtain ⟨o, _, e, _⟩ := hB₃; exact neT e
    refine h _ (iniA ++ [a]) T (ini ++ [last]) [] ?_ ?_ ?_ ?_ ?_ ?_ ?_ ?_ ?_
    · obtain ⟨h4, t4, rfl, kk4⟩ := kp_trans k₃' k₄
      exact ⟨h', _, rfl, fun b o hb' e => hs'.extBut b o (fun q => hb' (by rw [q]; exact .head _)) (kk4 b o e)⟩
    · simpa using hB'
    · have hbk : Blks s₄.heap (iniA ++ [a]) (ini ++ [last]) := ((hb₃.append (.cons ha₃ .nil))).keeps (kp_kept k₄)
      exact hbk.at fun x hx o e => hs'.extBut _ _ (haB x hx) e
    · exact ⟨_, plain_at hT fun o e => hs'.extBut _ _ neTB e, .nil⟩
    · intro hx
      have hsome : ∃ o, s₃.heap.get? T = some o := (hb₃.append (.cons ha₃ .nil)).some T hx
      obtain ⟨o, e⟩ := hsome
      rw [hTf] at e; cases e
    · intro x hx
      rcases List.mem_append.mp hx with q | q
      · exact .inl q
      · rw [List.mem_singleton.mp q]
        right
        cases q' : s.heap.get? T with
        | none => rfl
        | some o => have := kp_kept k₃' _ _ q'; rw [hTf] at this; cases this
    · rw [szs_append, cntB_append]
      show _ * (1 * 1) ≤ 24
      omega
    · simp
    · intro b hb' r' hr'
      rcases List.mem_append.mp hb' with q | q
      · exact hP b q r' hr'
      · rw [List.mem_singleton.mp q] at hr'; cases hr'
  · rw [if_neg (by simpa using hz)]
    refine wpAny_execs_cons ?_
    refine wpAny_If ?_
    refine wpAny_isTrue_Compare1 ?_
    refine wpAny_BinOp ?_
    refine Call_fn W₃ (by rfl) (by rfl) (by rfl) ?_
    refine args_cons ?_
    refine list_slice ?_
    refine ldBlocks S₃ ?_
    rw [evalPart_none]
    refine wpAny_pure ?_
    rw [evalPart_some]
    refine wpAny_UnaryOp (ci_k fun s₄ t₄ k₄ => neg_int ?_)
    have k₄' : Keeps s₃ { s₄ with toks := s₄.toks + 1 } := kp_trans k₄ (kp_toks _ _)
    refine ⟨B, _, none, some (-1), rfl, hB₃.isList.at fun o e => kp_kept k₄' _ _ e, by simp; omega, .none, .int _ _, fun s₅ D₅ k₅ hD₅ _ => ?_⟩
    have hpick : slicePick ((iniA ++ [a]).map Value.ref).toArray none (some (-1)) none = (iniA.map Value.ref).toArray := by
      have := slicePick_butLast ((iniA ++ [a]).map Value.ref).toArray 1 (by omega)
      rw [show (-((1 : Nat) : Int)) = -1 from rfl] at this
      rw [this]
      simp
    rw [hpick] at hD₅
    have k₅' := kp_trans k₄' k₅
    refine args_nil ⟨k₅', ?_⟩
    refine count_spec (W₃.keeps (kp_kept k₅')) hroom hh hD₅ (hb₃.keeps (kp_kept k₅')) (by omega) fun s₆ t₆ k₆ => ?_
    have k₆' := kp_trans k₅' k₆
    have S₆ := S₃.keeps (kp_kept k₆')
    have hB₆ := hB₃.keeps (kp_kept k₆')
    have ha₆ : PAcc a last s₆.heap := ha₃.at fun o e => kp_kept k₆' _ _ e
    have W₆ := W₃.keeps (kp_kept k₆')
    obtain ⟨its, hpl, hst⟩ := id ha₆
    have hsz : its.size = last.length := by have := hst.len_eq; simpa using this
    have hmap : ((iniA ++ [a]).map Value.ref) = iniA.map Value.ref ++ [Value.ref a] := by simp
    refine wpAny_BinOp ?_
    refine Call_b1 W₆ (by rfl) boot_len (by decide) ?_
    refine list_last ?_
    refine ldBlocks S₆ ?_
    refine wpAny_UnaryOp (ci_k fun s₇ t₇ k₇ => neg_int ?_)
    have k₇' : Keeps s₆ { s₇ with toks := s₇.toks + 1 } := kp_trans k₇ (kp_toks _ _)
    refine ⟨B, iniA.map Value.ref, _, .ref a, rfl, rfl, ?_, by simp; omega, ?_⟩
    · rw [← hmap]; exact hB₆.isList.at fun o e => kp_kept k₇' _ _ e
    refine len_k (hpl.isList.at fun o e => kp_kept k₇' _ _ e) (by omega) fun s₈ t₈ k₈ => ?_
    refine ci_k fun s₉ t₉ k₉ => ?_
    refine add_k fun s₁₀ t₁₀ k₁₀ => ?_
    refine mul_k (by omega) (by omega) fun s₁₁ t₁₁ k₁₁ => ?_
    refine ci_k fun s₁₂ t₁₂ k₁₂ => ?_
    refine le_int (wpAny_truthy_bool ?_)
    have k₁₂' := kp_trans k₆' (kp_trans (kp_trans (kp_trans (kp_trans (kp_trans k₇' k₈) k₉) k₁₀) k₁₁) k₁₂)
    have S₁₂ := S₃.keeps (kp_kept k₁₂')
    have hB₁₂ := hB₃.keeps (kp_kept k₁₂')
    have hb₁₂ := hb₃.keeps (kp_kept k₁₂')
    have ha₁₂ : PAcc a last s₁₂.heap := ha₃.at fun o e => kp_kept k₁₂' _ _ e
    have ev : ((cntB (szs ini) : Nat) : Int) * (((its.size : Nat) : Int) + 2) = ((cntB (szs ini) * (last.length + 2) : Nat) : Int) := by
      rw [hsz]; push_cast; rfl
    rw [ev]
    by_cases hle : cntB (szs ini) * (last.length + 2) ≤ 24
    · have hle' : ((cntB (szs ini) * (last.length + 2) : Nat) : Int) ≤ 24 := by omega
      rw [if_pos (decide_eq_true hle')]
      refine wpAny_execs_cons ?_
      refine wpAny_Expr ?_
      refine wpAny_Call_append (by rfl) (by rfl) (by rfl) (by rfl) ?_
      refine list_last ?_
      refine ldBlocks S₁₂ ?_
      refine wpAny_UnaryOp (ci_k fun s₁₃ t₁₃ k₁₃ => neg_int ?_)
      have k₁₃' : Keeps s₁₂ { s₁₃ with toks := s₁₃.toks + 1 } := kp_trans k₁₃ (kp_toks _ _)
      have S₁₃ := S₁₂.keeps (kp_kept k₁₃')
      obtain ⟨its', hpl', hst'⟩ : PAcc a last { s₁₃ with toks := s₁₃.toks + 1 }.heap := ha₁₂.at fun o e => kp_kept k₁₃' _ _ e
      have hsz' : its'.size = last.length := by have := hst'.len_eq; simpa using this
      have hB₁₃ : PlainL s₁₃.heap B _ := hB₁₂.keeps (kp_kept k₁₃)
      refine ⟨B, iniA.map Value.ref, _, .ref a, rfl, rfl, ?_, by simp; omega, a, its', rfl, hpl', ?_⟩
      · rw [← hmap]; exact hB₁₃.isList
      refine ldl S₁₃.fr.ns (by exact hm2) ?_
      refine list_append_plainL hpl' (fun h' hA' hs' => ?_) (by omega)
      refine wpAny_execs_nil (wpAny_execs_nil (wpAny_execs_nil ?_))
      refine h _ iniA a ini (last ++ [r]) ?_ ?_ ?_ ?_ hai (fun x hx => .inl hx) ?_ (by omega) ?_
      · obtain ⟨h4, t4, e4, kk4⟩ := kp_trans (kp_trans k₃' k₁₂') k₁₃'
        have ke := kp_kept (kp_trans (kp_trans k₃' k₁₂') k₁₃')
        refine ⟨h', s₁₃.toks + 1, ?_, fun b o hb' e => hs'.extBut b o (fun q => hb' (by rw [q]; exact .tail _ (.head _))) (ke b o e)⟩
        have := congrArg (fun z : Shared => { z with heap := h', toks := s₁₃.toks + 1 }) e4
        exact this
      · exact plain_at hB₁₃ fun o e => hs'.extBut _ _ (Ne.symm ha0) e
      · exact (hb₁₂.keeps (kp_kept k₁₃')).at fun x hx o e => hs'.extBut _ _ (fun q => hai (q ▸ hx)) e
      · refine ⟨_, hA', ?_⟩
        rw [Array.toList_push]
        exact hst'.append' (.cons _ _ .nil)
      · rw [szs_append, cntB_append]
        show _ * (((last ++ [r]).length + 1) * 1) ≤ 24
        rw [List.length_append, Nat.mul_one]
        exact hle
      · intro b hb' r' hr'
        rcases List.mem_append.mp hb' with q | q
        · exact hP b (List.mem_append.mpr (.inl q)) r' hr'
        · rw [List.mem_singleton.mp q] at hr'
          rcases List.mem_append.mp hr' with q' | q'
          · exact hP last (by simp) r' q'
          · rw [List.mem_singleton.mp q']; exact hr
    · have hle' : ¬ ((cntB (szs ini) * (last.length + 2) : Nat) : Int) ≤ 24 := by omega
      rw [if_neg (by simpa using hle')]
      refine wpAny_execs_nil (wpAny_execs_nil (wpAny_execs_nil ?_))
      exact h _ iniA a ini last (Upds.of (kp_trans k₃' k₁₂')) hB₁₂ hb₁₂ ha₁₂ hai (fun x hx => .inl hx) hc (by omega) hP
end
end
end Mine
-- Q02i
namespace Mine
section
open PySem PySem.W PyProof.Rows

abbrev ZSt (z TI TO i1 i2 l1 l2 : Addr) (xs ys : Array Value) (i : Nat) (h : Heap) : Prop :=
  IsZip h z TI TO .none ∧ IsPair h TI (.ref i1) (.ref i2) ∧ (∃ a b, IsPair h TO a b) ∧ h.IsListIter i1 l1 i ∧ h.IsListIter i2 l2 i ∧ h.IsList l1 xs ∧ h.IsList l2 ys

section
variable {prog : Program} {w : World} {A : Around} {E : Value → Shared → Prop} {s : Shared} {env : Env}
theorem zip_iter {K : Frag} {mg mb : Str → Option Value} {fp pos : Pos} {e1 e2 : Expr} {Q : Value → Shared → Prop} (W : Wd K mg mb s.heap) (e0 : nsIn K mainGlobals (Str.ofString "zip") = some none)
    (h : wpAny (model prog w) A (eval e1 env) (fun v1 s₁ => wpAny (model prog w) A (eval e2 env) (fun v2 s₂ => ∃ (l1 l2 : Addr) (xs ys : Array Value), v1 = .ref l1 ∧ v2 = .ref l2 ∧ s₂.heap.IsList l1 xs ∧ s₂.heap.IsList l2 ys ∧
      ∀ s' z TI TO i1 i2, Keeps s₂ s' → ZipApart z TI TO i1 i2 l1 l2 → s₂.heap.get? z = none → s₂.heap.get? TI = none → s₂.heap.get? TO = none → s₂.heap.get? i1 = none → s₂.heap.get? i2 = none → ZSt z TI TO i1 i2 l1 l2 xs ys 0 s'.heap → Q (.ref z) s') E s₁) E s)
    (hg : env.globals = mainGlobals := by rfl) (hb : env.builtins = builtinsNs := by rfl) (hk : env.scope.kind = .function := by rfl) (hx : env.kindOf (Str.ofString "zip") = some .globalImplicit := by rfl)
    (hs : starEach [e1, e2] env = (false, eval e1 env) :: starEach [e2] env := by rfl) (hs2 : starEach [e2] env = [(false, eval e2 env)] := by rfl)
    (hc : eval (.Call (.Name (Str.ofString "zip") fp) [e1, e2] [] pos) env = (do callWith pos (← eval (.Name (Str.ofString "zip") fp) env) [] (backTo pos (starEach [e1, e2] env)) (backToKw pos (keywordEach [] env))) := by rfl) :
    wpAny (model prog w) A (eval (.Call (.Name (Str.ofString "zip") fp) [e1, e2] [] pos) env) (fun xv s₁ => wpAny (model prog w) A (pyIter xv) Q E s₁) E s := by
  refine PyProof.Rows.Call_ (ldb W e0 boot_zip (by decide) ?_ hg hb hk hx (by decide)) hc
  refine PyProof.Rows.callWith_type1 ?_ hs (by rw [hs2]; rfl)
  refine args_cons (wpAny_mono h (fun v1 s₁ h₁ => args_cons (wpAny_mono h₁ (fun v2 s₂ h₂ => args_nil ?_) fun _ _ e => e) hs2) fun _ _ e => e) hs
  obtain ⟨l1, l2, xs, ys, rfl, rfl, hl1, hl2, hQ⟩ := h₂
  obtain ⟨o1, ho1, _⟩ := id hl1
  obtain ⟨o2, ho2, _⟩ := id hl2
  refine call_zip_2 hl1 hl2 fun h' hz hTI hTO hi1 hi2 hsz hk => ?_
  refine wpAny_pyIter_zip hz ?_
  have fr : ∀ k, s₂.heap.get? (s₂.heap.objs.size + k) = none := fun k => Heap.get?_none_of_le (Nat.le_add_right _ _)
  exact hQ _ _ _ _ _ _ ⟨h', s₂.toks, rfl, hk⟩ (zipApart_new (Heap.lt_size ho1) (Heap.lt_size ho2)) (fr 4) (fr 2) (fr 3) (fr 0) (fr 1) ⟨hz, hTI, ⟨_, _, hTO⟩, hi1, hi2, hl1.at fun o e => hk _ o e, hl2.at fun o e => hk _ o e⟩
end

/-- what holds between the turns that fill the blocks -/
def ZJ (L B a₀ : Addr) (X : List Addr) (s₂ : Shared) (P : Str → Prop) (i : Nat) (s' : Shared) : Prop :=
  Upds X s₂ s' ∧ (∃ m', s'.heap.Ns L m') ∧ ∃ (iniA : List Addr) (a : Addr) (ini : List (List Str)) (last : List Str), PlainL s'.heap B ((iniA ++ [a]).map Value.ref).toArray ∧ Blks s'.heap iniA ini ∧ PAcc a last s'.heap ∧ a ∉ iniA ∧
    (∀ x ∈ iniA ++ [a], x ≠ B ∧ (x = a₀ ∨ s₂.heap.get? x = none)) ∧ cntB (szs (ini ++ [last])) ≤ 24 ∧ ini.length ≤ i ∧ (∀ b ∈ ini ++ [last], ∀ r ∈ b, P r)

section
variable {w : World} {A : Around} {E : Value → Shared → Prop} {s : Shared} {mg mb : Str → Option Value} {h₀ : Heap} {L fa : Addr} {cd : Value} {m : Str → Option Value}

set_option maxHeartbeats 2000000 in
theorem law_s3 {Dn Dr B a₀ : Addr} {its itr : Array Value} {ns : List Int} {rs : List Str} {P : Str → Prop} {Q : Flow → Shared → Prop} (W : Wd (KK w) mg mb h₀) (hroom : A.depth < recursionLimit) (hh : A.handled = none)
    (S : LS h₀ L m (some (.ref Dr)) (some (.ref B)) s.heap) (hm : m "numbers" = some (.ref Dn)) (hDn : s.heap.IsList Dn its) (hi : IntsAre its.toList ns) (hDr : s.heap.IsList Dr itr) (hir : StrsAre itr.toList rs)
    (hns : ns.length ≤ 12) (hrs : rs.length ≤ 12) (hP : ∀ r ∈ rs, P r)
    (hB : PlainL s.heap B ([a₀].map Value.ref).toArray) (hb : Blks s.heap [a₀] [[]]) (hB0 : h₀.get? B = none) (ha0 : h₀.get? a₀ = none) (haB : a₀ ≠ B) (hBr : Dr ≠ B) (har : Dr ≠ a₀)
    (h : ∀ s' m' as bs, LS h₀ L m' (some (.ref Dr)) (some (.ref B)) s'.heap → s'.heap.IsList Dr itr → s'.heap.IsList B (as.map Value.ref).toArray → Blks s'.heap as bs → cntB (szs bs) ≤ 24 → bs.length ≤ 13 → (∀ b ∈ bs, ∀ r ∈ b, P r) →
      (∃ h' tk, s' = { s with heap := h', toks := tk }) → Q .next s') :
    wpAny (model PP w) A (exec (lst PP 3) (lenv L fa cd)) Q E s := by
  have hsl : sizeLine = 16777216 := sizeLine_eq
  have W₀ : Wd (KK w) mg mb s.heap := W.keeps S.fr.keep
  have hil : its.size = ns.length := by have := hi.length; simpa using this
  have hirl : itr.size = rs.length := by have := hir.len_eq; simpa using this
  refine for_walk2 ?_
  refine zip_iter W₀ (by rfl) ?_
  refine list_slice ?_
  refine ldl S.fr.ns (by exact hm) ?_
  rw [evalPart_some]
  refine ci_k fun s₁ t₁ k₁ => ?_
  rw [evalPart_none]
  refine wpAny_pure ⟨Dn, its, some ((2 : Nat) : Int), none, rfl, hDn.at fun o e => kp_kept k₁ _ _ e, by omega, .int _ _, .none, fun s₂ l1 k₂ hl1 hf1 => ?_⟩
  rw [slicePick_from'] at hl1
  have k₂' := kp_trans k₁ k₂
  have S₂ := S.keeps (kp_kept k₂')
  refine list_slice ?_
  refine ldRows S₂ ?_
  rw [evalPart_some]
  refine ci_k fun s₃ t₃ k₃ => ?_
  rw [evalPart_none]
  have k₃' := kp_trans k₂' k₃
  refine wpAny_pure ⟨Dr, itr, some ((2 : Nat) : Int), none, rfl, hDr.at fun o e => kp_kept k₃' _ _ e, by omega, .int _ _, .none, fun s₄ l2 k₄ hl2 hf2 => ?_⟩
  rw [slicePick_from'] at hl2
  have k₄' := kp_trans k₃' k₄
  have hl1₄ : s₄.heap.IsList l1 (its.toList.drop 2).toArray := hl1.at fun o e => kp_kept (kp_trans k₃ k₄) _ _ e
  refine ⟨l1, l2, _, _, rfl, rfl, hl1₄, hl2, fun s₅ z TI TO i1 i2 k₅ Z fz fTI fTO fi1 fi2 hst => ?_⟩
  have k₅' := kp_trans k₄' k₅
  have S₄ := S.keeps (kp_kept k₄')
  have S₅ := S.keeps (kp_kept k₅')
  have hDr₄ : s₄.heap.IsList Dr itr := hDr.at fun o e => kp_kept k₄' _ _ e
  have hDr₅ : s₅.heap.IsList Dr itr := hDr.at fun o e => kp_kept k₅' _ _ e
  have hB₄ := hB.keeps (kp_kept k₄')
  have hb₄ := hb.keeps (kp_kept k₄')
  have hB₅ := hB.keeps (kp_kept k₅')
  have hb₅ := hb.keeps (kp_kept k₅')
  -- who is apart from whom
  have exs : ∀ {x : Addr} {o : Obj}, s₄.heap.get? x = some o → x ≠ z ∧ x ≠ TI ∧ x ≠ TO ∧ x ≠ i1 ∧ x ≠ i2 := fun hx =>
    ⟨fun q => (by rw [q, fz] at hx; cases hx), fun q => (by rw [q, fTI] at hx; cases hx), fun q => (by rw [q, fTO] at hx; cases hx), fun q => (by rw [q, fi1] at hx; cases hx), fun q => (by rw [q, fi2] at hx; cases hx)⟩
  obtain ⟨oL, eL1, eL2, hoL, rL⟩ := id S₄.fr.ns
  obtain ⟨oC1, hoC1, dC1⟩ := id S₄.cell
  obtain ⟨oC2, hoC2, dC2⟩ := id S₄.cell2
  obtain ⟨oB, nB, hoB, rB⟩ := id hB₄
  obtain ⟨oA, hoA⟩ := hb₄.some a₀ (.head _)
  obtain ⟨oR, hoR, rR⟩ := id hDr₄
  obtain ⟨o1, ho1, r1⟩ := id hl1₄
  obtain ⟨o2, ho2, r2⟩ := id hl2
  have hL := exs hoL
  have hC1 := exs hoC1
  have hC2 := exs hoC2
  have hBz := exs hoB
  have hAz := exs hoA
  have hRz := exs hoR
  obtain ⟨_, hA₄, _⟩ : ∃ its', PlainL s₄.heap a₀ its' ∧ True := by
    cases hb₄ with
    | cons p _ => obtain ⟨i, q, _⟩ := p; exact ⟨i, q, trivial⟩
  have BL : B ≠ L := ne_list S₄.fr.ns hB₄.isList
  have BC1 : B ≠ L + 1 := cell_ne S₄.cell hB₄.isList
  have BC2 : B ≠ L + 2 := cell_ne S₄.cell2 hB₄.isList
  have AL : a₀ ≠ L := ne_list S₄.fr.ns hA₄.isList
  have AC1 : a₀ ≠ L + 1 := cell_ne S₄.cell hA₄.isList
  have AC2 : a₀ ≠ L + 2 := cell_ne S₄.cell2 hA₄.isList
  have RL : Dr ≠ L := ne_list S₄.fr.ns hDr₄
  -- l1, l2 are new
  have old1 : ∀ {x : Addr} {o : Obj}, s.heap.get? x = some o → l1 ≠ x ∧ l2 ≠ x := fun hx =>
    ⟨fun q => (by have := kp_kept k₁ _ _ hx; rw [← q, hf1] at this; cases this), fun q => (by have := kp_kept k₃' _ _ hx; rw [← q, hf2] at this; cases this)⟩
  obtain ⟨oL0, _, _, hoL0, _⟩ := id S.fr.ns
  obtain ⟨oB0, _, hoB0, _⟩ := id hB
  obtain ⟨oA0, hoA0⟩ := hb.some a₀ (.head _)
  have lL := old1 hoL0
  have lB := old1 hoB0
  have lA := old1 hoA0
  have h₀none : ∀ {x : Addr}, s₄.heap.get? x = none → h₀.get? x = none := fun {x} hx => by
    cases q : h₀.get? x with
    | none => rfl
    | some o => have := S₄.fr.keep _ _ q; rw [hx] at this; cases this
  have hL0 : h₀.get? L = none := Heap.get?_none_of_le S.fr.above
  have sm4 : ∀ {x : Addr}, (∃ o, s₄.heap.get? x = some o) → ∃ o, s₅.heap.get? x = some o := fun ⟨o, e⟩ => ⟨o, kp_kept k₅ _ _ e⟩
  have zs5 : ∀ x ∈ [z, TI, TO, i1, i2, l1, l2], ∃ o, s₅.heap.get? x = some o := by
    obtain ⟨a1, a2, ⟨_, _, a3⟩, ⟨_, a4, _⟩, ⟨_, a5, _⟩, ⟨_, a6, _⟩, ⟨_, a7, _⟩⟩ := id hst
    intro x hx
    simp only [List.mem_cons, List.not_mem_nil, or_false] at hx
    rcases hx with rfl | rfl | rfl | rfl | rfl | rfl | rfl
    · exact ⟨_, a1⟩
    · exact ⟨_, a2⟩
    · exact ⟨_, a3⟩
    · exact ⟨_, a4⟩
    · exact ⟨_, a5⟩
    · exact ⟨_, a6⟩
    · exact ⟨_, a7⟩
  have mkLS : ∀ {s' : Shared} {m' : Str → Option Value}, Upds [L, B, a₀, z, TO, i1, i2] s₅ s' → s'.heap.Ns L m' → LS h₀ L m' (some (.ref Dr)) (some (.ref B)) s'.heap := by
    intro s' m' u hn
    refine ⟨⟨hn, fun b o e => ?_, S.fr.above⟩, ?_, ?_⟩
    · refine u.kept b o (fun q => ?_) (S₅.fr.keep b o e)
      have hne : ∀ {x : Addr}, h₀.get? x = none → b ≠ x := fun hx q => by rw [q, hx] at e; cases e
      simp only [List.mem_cons, List.not_mem_nil, or_false] at q
      rcases q with q | q | q | q | q | q | q
      · exact hne hL0 q
      · exact hne hB0 q
      · exact hne ha0 q
      · exact hne (h₀none fz) q
      · exact hne (h₀none fTO) q
      · exact hne (h₀none fi1) q
      · exact hne (h₀none fi2) q
    · obtain ⟨o, ho, hd⟩ := S₅.cell
      exact ⟨o, u.kept _ o (by simp only [List.mem_cons, List.not_mem_nil, or_false, not_or]; exact ⟨ne1 L, Ne.symm BC1, Ne.symm AC1, hC1.1, hC1.2.2.1, hC1.2.2.2.1, hC1.2.2.2.2⟩) ho, hd⟩
    · obtain ⟨o, ho, hd⟩ := S₅.cell2
      exact ⟨o, u.kept _ o (by simp only [List.mem_cons, List.not_mem_nil, or_false, not_or]; exact ⟨ne2 L, Ne.symm BC2, Ne.symm AC2, hC2.1, hC2.2.2.1, hC2.2.2.2.1, hC2.2.2.2.2⟩) ho, hd⟩
  have blkNe : ∀ {x : Addr}, (x = a₀ ∨ s₅.heap.get? x = none) → ∀ y ∈ [z, TI, TO, i1, i2, l1, l2], x ≠ y := by
    intro x hx y hy q
    rcases hx with rfl | hx
    · simp only [List.mem_cons, List.not_mem_nil, or_false] at hy
      rcases hy with rfl | rfl | rfl | rfl | rfl | rfl | rfl
      · exact hAz.1 q
      · exact hAz.2.1 q
      · exact hAz.2.2.1 q
      · exact hAz.2.2.2.1 q
      · exact hAz.2.2.2.2 q
      · exact lA.1 q.symm
      · exact lA.2 q.symm
    · obtain ⟨o, e⟩ := zs5 y hy
      rw [← q, hx] at e; cases e
  have WT := WalksT.zip2 (prog := PP) (w := w) (A := A) hh z TI TO i1 i2 l1 l2 Z (its.toList.drop 2).toArray (itr.toList.drop 2).toArray
  have stab : ∀ i (s₆ : Shared) h' tk, ZJ L B a₀ [L, B, a₀, z, TO, i1, i2] s₅ P i s₆ → (∀ b o, b ∉ [z, TO, i1, i2] → s₆.heap.get? b = some o → h'.get? b = some o) → ZJ L B a₀ [L, B, a₀, z, TO, i1, i2] s₅ P i { s₆ with heap := h', toks := tk } := by
    rintro i s₆ h' tk ⟨u, ⟨m', hn⟩, iniA, a, ini, last, b1, b2, b3, b4, b5, b6, b7, b8⟩ hk
    have sub4 : ∀ y ∈ [z, TO, i1, i2], y ∈ [z, TI, TO, i1, i2, l1, l2] := by
      intro y hy
      simp only [List.mem_cons, List.not_mem_nil, or_false] at hy ⊢
      rcases hy with q | q | q | q <;> simp [q]
    have nin : ∀ {x : Addr}, (x = a₀ ∨ s₅.heap.get? x = none) → x ∉ [z, TO, i1, i2] := fun hx q => blkNe hx _ (sub4 _ q) rfl
    refine ⟨?_, ⟨m', hn.at' fun o e => hk _ o ?_ e⟩, iniA, a, ini, last, plain_at b1 fun o e => hk _ o ?_ e, b2.at fun x hx o e => hk _ o (nin (b5 x (List.mem_append.mpr (.inl hx))).2) e, b3.at fun o e => hk _ o (nin (b5 a (by simp)).2) e, b4, b5, b6, b7, b8⟩
    · obtain ⟨h6, t6, rfl, kk⟩ := u
      refine ⟨h', tk, rfl, fun b o hb' e => hk b o (fun q => hb' ?_) (kk b o hb' e)⟩
      exact .tail _ (.tail _ (.tail _ q))
    · simp only [List.mem_cons, List.not_mem_nil, or_false, not_or]
      exact ⟨hL.1, hL.2.2.1, hL.2.2.2.1, hL.2.2.2.2⟩
    · simp only [List.mem_cons, List.not_mem_nil, or_false, not_or]
      exact ⟨hBz.1, hBz.2.2.1, hBz.2.2.2.1, hBz.2.2.2.2⟩
  have hn1 : (its.toList.drop 2).toArray.size ≤ 12 := by rw [List.size_toArray, List.length_drop, Array.length_toList]; omega
  refine ⟨z, _, _, _, _, _, _, ZJ L B a₀ [L, B, a₀, z, TO, i1, i2] s₅ P, rfl, WT, hst, ?_, stab, ?_, ?_⟩
  · refine ⟨Upds.refl _ _, ⟨m, S₅.fr.ns⟩, [], a₀, [], [], hB₅, .nil, ?_, by simp, ?_, by decide, Nat.le_refl _, ?_⟩
    · cases hb₅ with
      | cons p _ => exact p
    · intro x hx
      have : x = a₀ := by simpa using hx
      rw [this]; exact ⟨haB, .inl rfl⟩
    · intro b hb' r hr
      have : b = [] := by simpa using hb'
      rw [this] at hr; cases hr
  · rintro i T vals s₆ E' hi' ⟨x, y, hx, hy, rfl⟩ hT ⟨u, ⟨m', hn⟩, iniA, a, ini, last, b1, b2, b3, b4, b5, b6, b7, b8⟩ hS'
    have hi12 : i < 12 := by
      have : min (its.toList.drop 2).toArray.size (itr.toList.drop 2).toArray.size ≤ 12 := Nat.le_trans (Nat.min_le_left _ _) hn1
      omega
    have hx' : its.toList[2 + i]? = some x := by simpa [List.getElem?_drop] using hx
    have hy' : itr.toList[2 + i]? = some y := by simpa [List.getElem?_drop] using hy
    obtain ⟨nn, tn, rfl, _⟩ := IntsAre.item' hi x (List.mem_of_getElem? hx')
    obtain ⟨r, tr, rfl, hr⟩ := hir.item (2 + i) y hy'
    have hPr : P r := hP r (List.mem_of_getElem? hr)
    have S₆ := mkLS u hn
    refine assign_pair_val hh hT fun s₇ k₇ => ?_
    refine stLS (S₆.keeps (kp_kept k₇)) fun s₈ S₈ u₈ => ?_
    refine stLS S₈ fun s₉ S₉ u₉ => ?_
    have v₉ : Upd L s₆ s₉ := ((Upd.of k₇).trans u₈).trans u₉
    have nL : ∀ {x : Addr}, x ∈ iniA ++ [a] → x ≠ L := by
      intro x hx q
      rcases (b5 x hx).2 with e | e
      · exact AL (e ▸ q)
      · have := kp_kept k₅ _ _ hoL
        rw [q] at e
        rw [e] at this; cases this
    refine zip_body (P := P) W hroom hh S₉ rfl rfl (plain_at b1 fun o e => v₉.kept _ _ BL e) (b2.at fun x hx o e => v₉.kept _ _ (nL (List.mem_append.mpr (.inl hx))) e) (b3.at fun o e => v₉.kept _ _ (nL (by simp)) e) b4 (fun x hx => (b5 x hx).1) b6 (by omega) b8 hPr ?_
    intro s' iniA' a' ini' last' u' c1 c2 c3 c4 c5 c6 c7 c8
    have hBn : B ∉ iniA' ++ [a'] := by
      intro q
      rcases c5 B q with e | e
      · exact (b5 B e).1 rfl
      · obtain ⟨o, n', e', _⟩ := plain_at b1 fun o e => v₉.kept _ _ BL e
        rw [e] at e'; cases e'
    -- what was there at the start of the loop and is not one of ours is as it was
    have all5 : Upds [L, B, a] s₆ s' := by
      obtain ⟨h9, t9, rfl, kk9⟩ := v₉
      obtain ⟨h', t', rfl, kk'⟩ := u'
      refine ⟨h', t', rfl, fun b o hb' e => kk' b o (fun q => hb' (.tail _ q)) (kk9 b o (fun q => hb' (q ▸ .head _)) e)⟩
    have kept5 : ∀ b o, b ∉ [L, B, a₀, z, TO, i1, i2] → s₅.heap.get? b = some o → s'.heap.get? b = some o := by
      intro b o hb' e
      refine all5.kept b o (fun q => ?_) (u.kept b o hb' e)
      simp only [List.mem_cons, List.not_mem_nil, or_false] at q
      rcases q with q | q | q
      · exact hb' (q ▸ .head _)
      · exact hb' (q ▸ .tail _ (.head _))
      · rcases (b5 a (by simp)).2 with e' | e'
        · exact hb' (by rw [q, e']; exact .tail _ (.tail _ (.head _)))
        · rw [q, e'] at e; cases e
    have hStk : ∀ b ∈ [z, TI, TO, i1, i2, l1, l2], ∀ o, s₆.heap.get? b = some o → s'.heap.get? b = some o := by
      intro b hb' o e
      refine all5.kept b o (fun q => ?_) e
      have hab := blkNe (b5 a (by simp)).2 b hb'
      simp only [List.mem_cons, List.not_mem_nil, or_false] at q
      rcases q with q | q | q
      · simp only [List.mem_cons, List.not_mem_nil, or_false] at hb'
        rcases hb' with h' | h' | h' | h' | h' | h' | h'
        · exact hL.1 (q ▸ h')
        · exact hL.2.1 (q ▸ h')
        · exact hL.2.2.1 (q ▸ h')
        · exact hL.2.2.2.1 (q ▸ h')
        · exact hL.2.2.2.2 (q ▸ h')
        · exact lL.1 (h' ▸ q)
        · exact lL.2 (h' ▸ q)
      · simp only [List.mem_cons, List.not_mem_nil, or_false] at hb'
        rcases hb' with h' | h' | h' | h' | h' | h' | h'
        · exact hBz.1 (q ▸ h')
        · exact hBz.2.1 (q ▸ h')
        · exact hBz.2.2.1 (q ▸ h')
        · exact hBz.2.2.2.1 (q ▸ h')
        · exact hBz.2.2.2.2 (q ▸ h')
        · exact lB.1 (h' ▸ q)
        · exact lB.2 (h' ▸ q)
      · exact hab q.symm
    refine ⟨⟨?_, ⟨_, S₉.fr.ns.at' fun o e => u'.kept _ o ?_ e⟩, iniA', a', ini', last', c1, c2, c3, c4, ?_, c6, by omega, c8⟩, WT.frame (i + 1) s₆.heap s'.heap hS' hStk⟩
    · obtain ⟨h6, t6, e6, kk6⟩ := u
      obtain ⟨h', t', rfl, kk'⟩ := all5
      rw [e6]
      exact ⟨h', t', rfl, kept5⟩
    · simp only [List.mem_cons, List.not_mem_nil, or_false, not_or]
      exact ⟨Ne.symm BL, Ne.symm (nL (by simp))⟩
    · intro x hx
      refine ⟨fun q => hBn (q ▸ hx), ?_⟩
      rcases c5 x hx with e | e
      · exact (b5 x e).2
      · by_cases hxa : x = a₀
        · exact .inl hxa
        · right
          cases q : s₅.heap.get? x with
          | none => rfl
          | some o =>
            exfalso
            have hxB : x ≠ B := fun q' => hBn (q' ▸ hx)
            have hx6 : s₆.heap.get? x ≠ none := by
              intro e6
              by_cases hin : x ∈ [L, B, a₀, z, TO, i1, i2]
              · simp only [List.mem_cons, List.not_mem_nil, or_false] at hin
                obtain ⟨z1, z2, ⟨_, _, z3⟩, ⟨_, z4, _⟩, ⟨_, z5, _⟩, _, _⟩ := id hS'
                rcases hin with h' | h' | h' | h' | h' | h' | h'
                · obtain ⟨o', _, _, ho', _⟩ := hn
                  rw [h'] at e6; rw [e6] at ho'; cases ho'
                · exact hxB h'
                · exact hxa h'
                · rw [h'] at e6; have z1' : s₆.heap.get? z = _ := z1; rw [e6] at z1'; cases z1'
                · rw [h'] at e6; have z1' : s₆.heap.get? TO = _ := z3; rw [e6] at z1'; cases z1'
                · rw [h'] at e6; rw [e6] at z4; cases z4
                · rw [h'] at e6; rw [e6] at z5; cases z5
              · have := u.kept x o hin q
                rw [e6] at this; cases this
            by_cases hxL : x = L
            · obtain ⟨o', _, _, ho', _⟩ := S₉.fr.ns
              have ho'' : s₉.heap.get? L = some o' := ho'
              rw [hxL] at e; rw [e] at ho''; cases ho''
            · cases q6 : s₆.heap.get? x with
              | none => exact hx6 q6
              | some o6 => have := v₉.kept x o6 hxL q6; rw [e] at this; cases this
  · rintro s₆ ⟨u, ⟨m', hn⟩, iniA, a, ini, last, b1, b2, b3, b4, b5, b6, b7, b8⟩
    have hb7 : ini.length ≤ 12 := Nat.le_trans b7 (Nat.le_trans (Nat.min_le_left _ _) hn1)
    refine h s₆ m' (iniA ++ [a]) (ini ++ [last]) (mkLS u hn) (hDr₅.at fun o e => u.kept _ o ?_ e) b1.isList (b2.append (.cons b3 .nil)) b6 (by simp; omega) b8 ?_
    · simp only [List.mem_cons, List.not_mem_nil, or_false, not_or]
      exact ⟨RL, hBr, har, hRz.1, hRz.2.2.1, hRz.2.2.2.1, hRz.2.2.2.2⟩
    · obtain ⟨_, _, rfl, _⟩ := k₅'
      obtain ⟨_, _, rfl, _⟩ := u
      exact ⟨_, _, rfl⟩
end
end
end Mine
-- PureE
namespace Mine
section
open PySem PyProof.Rows

def hdc (d : Nat) : List (List Nat) → List (List Nat)
  | [] => [[d]]
  | r :: rs => (d :: r) :: rs

def spl (y : List Nat) : Nat → List Nat → List (List Nat)
  | _, [] => [[]]
  | k + 1, _ :: t => spl y k t
  | 0, d :: t => if (d :: t).take y.length = y then [] :: spl y (y.length - 1) t else hdc d (spl y 0 t)

theorem spl_skip (y : List Nat) : ∀ (k : Nat) (l : List Nat), spl y k l = spl y 0 (l.drop k)
  | 0, l => by simp
  | k + 1, [] => by simp [spl]
  | k + 1, _ :: t => by rw [spl, List.drop_succ_cons]; exact spl_skip y k t

theorem spl_ne (y : List Nat) : ∀ (k : Nat) (l : List Nat), ∃ r rs, spl y k l = r :: rs
  | k, [] => by cases k <;> exact ⟨[], [], rfl⟩
  | k + 1, _ :: t => spl_ne y k t
  | 0, d :: t => by
    rw [spl]
    split
    · exact ⟨_, _, rfl⟩
    · obtain ⟨r, rs, e⟩ := spl_ne y 0 t
      rw [e]; exact ⟨_, _, rfl⟩

theorem spl_none {y T : List Nat} (hy : 1 ≤ y.length) : ∀ (k a : Nat), a + k = T.length → (∀ j, a ≤ j → (T.drop j).take y.length ≠ y) → spl y 0 (T.drop a) = [T.drop a]
  | 0, a, h, _ => by rw [List.drop_eq_nil_of_le (by omega)]; rfl
  | k + 1, a, h, hn => by
    have ih := spl_none hy k (a + 1) (by omega) (fun j hj => hn j (by omega))
    have hd := drop_cons (T := T) (d := a) (by omega)
    rw [hd, spl, if_neg (by rw [← hd]; exact hn a (Nat.le_refl _)), ih]; rfl

theorem spl_some {y T : List Nat} (hy : 1 ≤ y.length) : ∀ (k a c : Nat), c = a + k → c < T.length → (T.drop c).take y.length = y → (∀ j, a ≤ j → j < c → (T.drop j).take y.length ≠ y) →
    spl y 0 (T.drop a) = (T.drop a).take (c - a) :: spl y 0 (T.drop (c + y.length))
  | 0, a, c, h, hlt, hm, _ => by
    have hca : c = a := by omega
    subst hca
    have hd := drop_cons (T := T) (d := c) hlt
    rw [hd, spl, if_pos (by rw [← hd]; exact hm), spl_skip, List.drop_drop, Nat.sub_self, List.take_zero]
    congr 3
    omega
  | k + 1, a, c, h, hlt, hm, hn => by
    have ih := spl_some hy k (a + 1) c (by omega) hlt hm (fun j h1 h2 => hn j (by omega) h2)
    have hd := drop_cons (T := T) (d := a) (by omega)
    rw [hd, spl, if_neg (by rw [← hd]; exact hn a (Nat.le_refl _) (by omega)), ih, show c - a = (c - (a + 1)) + 1 by omega, List.take_succ_cons]
    rfl

open Builtin.Str StrLaws in
theorem at_iff (x y : Str) (hy : 1 ≤ y.length) (k : Nat) : At x y x.length k ↔ (x.cps.toList.drop k).take y.length = y.cps.toList := by
  have e : subAt x y k = true ↔ (x.cps.toList.drop k).take y.length = y.cps.toList := by
    rw [subAt_eq]; exact beq_iff_eq
  constructor
  · exact fun h => e.mp h.2
  · intro h
    refine ⟨?_, e.mpr h⟩
    have hl := congrArg List.length h
    simp only [List.length_take, List.length_drop] at hl
    have e1 : x.cps.toList.length = x.length := by simp [Str.length]
    have e2 : y.cps.toList.length = y.length := by simp [Str.length]
    omega

open Builtin.Str StrLaws in
theorem parts_spl (x y : Str) (hy : 1 ≤ y.length) : ∀ (cuts : List Nat) (a f : Nat), a ≤ x.length → ChainG x y x.length a cuts f → (∀ k, f ≤ k → ¬ At x y x.length k) →
    (partsFrom x y.length a cuts).map (·.cps.toList) = spl y.cps.toList 0 (x.cps.toList.drop a)
  | [], a, f, ha, h, hn => by
    have e : f = a := h
    subst e
    have e1 : x.cps.toList.length = x.length := by simp [Str.length]
    have e2 : y.cps.toList.length = y.length := by simp [Str.length]
    rw [spl_none (by omega) (x.length - f) f (by omega) (fun j hj q => hn j hj ((at_iff x y hy j).mpr (by rw [e2] at q; exact q)))]
    show [(strSub x f x.length).cps.toList] = _
    rw [strSub_toList, List.take_of_length_le (by rw [List.length_drop]; omega)]
  | c :: r, a, f, ha, h, hn => by
    obtain ⟨h1, h2, h3, h4⟩ := h
    have e1 : x.cps.toList.length = x.length := by simp [Str.length]
    have e2 : y.cps.toList.length = y.length := by simp [Str.length]
    have hc := (at_iff x y hy c).mp h2
    have hcl := h2.1
    rw [spl_some (y := y.cps.toList) (by omega) (c - a) a c (by omega) (by omega) (by rw [e2]; exact hc) (fun j a1 a2 q => h3 j a1 a2 ((at_iff x y hy j).mpr (by rw [e2] at q; exact q)))]
    show (strSub x a c).cps.toList :: (partsFrom x y.length (c + y.length) r).map (·.cps.toList) = _
    rw [parts_spl x y hy r (c + y.length) f (by omega) h4 hn, strSub_toList, e2]

open Builtin.Str StrLaws in
theorem split_spl (x y : Str) (hy : 1 ≤ y.length) (hk : Builtin.Str.strKind y = 1) : (Txt.split x y).map (·.cps.toList) = spl y.cps.toList 0 x.cps.toList := by
  obtain ⟨f, hG, hn⟩ := occ_tight x y hy
  have hx1 : 1 ≤ Builtin.Str.strKind x := by unfold Builtin.Str.strKind; split <;> (try split) <;> omega
  have e1 : x.cps.toList.length = x.length := by simp [Str.length]
  have e2 : y.cps.toList.length = y.length := by simp [Str.length]
  unfold Txt.split
  split
  · rename_i hc
    have hlt : x.length < y.length := by
      rw [hk] at hc
      simp only [Bool.or_eq_true, decide_eq_true_eq] at hc
      omega
    have := spl_none (y := y.cps.toList) (T := x.cps.toList) (by omega) x.length 0 (by omega) (fun j _ q => by
      have hl := congrArg List.length q
      simp only [List.length_take, List.length_drop] at hl
      omega)
    rw [List.drop_zero] at this
    rw [this]; rfl
  · split
    · rename_i he
      have e0 : occurrences x y 0 x.length (x.length + 1) = [] := List.isEmpty_iff.mp he
      rw [e0] at hG
      have := parts_spl x y hy [] 0 f (Nat.zero_le _) hG hn
      rw [List.drop_zero] at this
      rw [← this]
      show _ = [(strSub x 0 x.length).cps.toList]
      rw [sub_whole]; rfl
    · rw [partsBetween_eq]
      have := parts_spl x y hy _ 0 f (Nat.zero_le _) hG hn
      rw [List.drop_zero] at this
      exact this
end
end Mine
-- PureF
namespace Mine
section
open PySem PyProof.Rows

/-- the rows of a text -/
def rwf : Bool → List Nat → List (List Nat)
  | _, [] => [[]]
  | p, c :: t => if c = 13 then [] :: rwf true t else if c = 10 then (if p = true then rwf false t else [] :: rwf false t) else hdc c (rwf false t)

theorem rwf_ne : ∀ (p : Bool) (l : List Nat), ∃ r rs, rwf p l = r :: rs
  | _, [] => ⟨[], [], rfl⟩
  | p, c :: t => by
    rw [rwf]
    split
    · exact ⟨_, _, rfl⟩
    · split
      · split
        · exact rwf_ne false t
        · exact ⟨_, _, rfl⟩
      · obtain ⟨r, rs, e⟩ := rwf_ne false t
        rw [e]; exact ⟨_, _, rfl⟩

def clean (r : List Nat) : Prop := ∀ c ∈ r, c ≠ 10 ∧ c ≠ 13

theorem rwf_clean : ∀ (p : Bool) (l : List Nat), ∀ r ∈ rwf p l, clean r
  | _, [], r, h => by
    rw [rwf] at h
    rw [List.mem_singleton.mp h]; intro c hc; cases hc
  | p, c :: t, r, h => by
    rw [rwf] at h
    split at h
    · rcases List.mem_cons.mp h with q | q
      · rw [q]; intro c hc; cases hc
      · exact rwf_clean true t r q
    · split at h
      · split at h
        · exact rwf_clean false t r h
        · rcases List.mem_cons.mp h with q | q
          · rw [q]; intro c hc; cases hc
          · exact rwf_clean false t r q
      · rename_i h13 h10
        obtain ⟨r', rs, e⟩ := rwf_ne false t
        rw [e] at h
        have ih := rwf_clean false t
        rw [e] at ih
        rcases List.mem_cons.mp h with q | q
        · rw [q]
          intro d hd
          rcases List.mem_cons.mp hd with q' | q'
          · rw [q']; exact ⟨h10, h13⟩
          · exact ih r' (.head _) d q'
        · exact ih r (.tail _ q)

theorem rwf_len : ∀ (p : Bool) (l : List Nat), (rwf p l).length ≤ l.length + 1
  | _, [] => by simp [rwf]
  | p, c :: t => by
    have h1 := rwf_len true t
    have h2 := rwf_len false t
    rw [rwf]
    split
    · simp only [List.length_cons]; omega
    · split
      · split
        · simp only [List.length_cons]; omega
        · simp only [List.length_cons]; omega
      · obtain ⟨r, rs, e⟩ := rwf_ne false t
        rw [e] at h2 ⊢
        simp only [hdc, List.length_cons] at h2 ⊢
        omega

theorem rwf_head {l : List Nat} (h : l.getD 0 0 ≠ 10) : rwf true l = rwf false l := by
  cases l with
  | nil => rfl
  | cons c t =>
    have hc : c ≠ 10 := h
    simp [rwf, hc]

-- the three cuts, one in another
def cut2 (a : List Nat) : List (List Nat) := (spl [13] 0 a).flatMap fun z => spl [10] 0 z

theorem spl1_cons (c d : Nat) (t : List Nat) : spl [c] 0 (d :: t) = if d = c then [] :: spl [c] 0 t else hdc d (spl [c] 0 t) := by
  rw [spl]
  simp

theorem cut2_nil : cut2 [] = [[]] := rfl
theorem cut2_13 (a : List Nat) : cut2 (13 :: a) = [] :: cut2 a := by
  unfold cut2
  rw [spl1_cons, if_pos rfl, List.flatMap_cons]; rfl
theorem cut2_10 (a : List Nat) : cut2 (10 :: a) = [] :: cut2 a := by
  unfold cut2
  rw [spl1_cons, if_neg (by decide)]
  obtain ⟨r, rs, e⟩ := spl_ne [13] 0 a
  rw [e]
  show ((10 :: r) :: rs).flatMap _ = _
  rw [List.flatMap_cons, List.flatMap_cons, spl1_cons, if_pos rfl]; rfl
theorem cut2_other {d : Nat} (h1 : d ≠ 10) (h2 : d ≠ 13) (a : List Nat) : cut2 (d :: a) = hdc d (cut2 a) := by
  unfold cut2
  rw [spl1_cons, if_neg h2]
  obtain ⟨r, rs, e⟩ := spl_ne [13] 0 a
  rw [e]
  show ((d :: r) :: rs).flatMap _ = _
  rw [List.flatMap_cons, List.flatMap_cons, spl1_cons, if_neg h1]
  obtain ⟨r', rs', e'⟩ := spl_ne [10] 0 r
  rw [e']; rfl

theorem cuts_rows : ∀ (l : List Nat), (spl [13, 10] 0 l).flatMap cut2 = rwf false l
  | [] => rfl
  | [c] => by
    have e : spl [13, 10] 0 [c] = [[c]] := by
      rw [spl, if_neg (by simp)]; rfl
    rw [e, List.flatMap_cons, List.flatMap_nil, List.append_nil]
    rw [rwf]
    by_cases h13 : c = 13
    · subst h13; rw [cut2_13]; rfl
    · rw [if_neg h13]
      by_cases h10 : c = 10
      · subst h10; rw [cut2_10]; rfl
      · rw [if_neg h10, cut2_other h10 h13]; rfl
  | c :: d :: t => by
    have ih1 := cuts_rows (d :: t)
    have ih2 := cuts_rows t
    by_cases hm : c = 13 ∧ d = 10
    · obtain ⟨rfl, rfl⟩ := hm
      rw [spl, if_pos (by simp), spl_skip]
      show ([] :: spl [13, 10] 0 t).flatMap cut2 = _
      rw [List.flatMap_cons, ih2, cut2_nil]
      simp [rwf]
    · rw [spl, if_neg (by simpa using hm)]
      obtain ⟨r, rs, e⟩ := spl_ne [13, 10] 0 (d :: t)
      rw [e] at ih1 ⊢
      show ((c :: r) :: rs).flatMap cut2 = _
      rw [List.flatMap_cons] at ih1 ⊢
      by_cases h13 : c = 13
      · subst h13
        have hd : d ≠ 10 := fun q => hm ⟨rfl, q⟩
        rw [cut2_13, List.cons_append, ih1, ← rwf_head (l := d :: t) (by simpa using hd)]
        conv => rhs; rw [rwf]
        simp
      · by_cases h10 : c = 10
        · subst h10
          rw [cut2_10, List.cons_append, ih1]
          conv => rhs; rw [rwf]
          simp
        · rw [cut2_other h10 h13]
          conv => rhs; rw [rwf]
          rw [if_neg h13, if_neg h10, ← ih1]
          obtain ⟨r', rs', e'⟩ : ∃ r' rs', cut2 r = r' :: rs' := by
            unfold cut2
            obtain ⟨a, as, ea⟩ := spl_ne [13] 0 r
            rw [ea, List.flatMap_cons]
            obtain ⟨b, bs, eb⟩ := spl_ne [10] 0 a
            rw [eb]; exact ⟨_, _, rfl⟩
          rw [e']; rfl
end
end Mine
-- PureG
namespace Mine
section
open PySem PyProof.Rows

theorem rowT_zero (r : List Nat) : rowT 0 r = r := by unfold rowT; split <;> simp

-- P2
theorem tl_succ (rs : List (List Nat)) : ∀ n, 1 ≤ n → tl (endsN 1 0) (rowT 0) (n + 1) rs = 13 :: 10 :: tl (endsN 1 0) (rowT 0) n rs := by
  induction rs with
  | nil =>
    intro n hn
    show endsN 1 0 n = 13 :: 10 :: endsN 1 0 (n - 1)
    unfold endsN
    rw [if_neg (by omega)]
    obtain ⟨k, rfl⟩ : ∃ k, n = k + 1 := ⟨n - 1, by omega⟩
    rw [show (k + 1) * 1 + 0 = k + 1 by omega, crlf_succ]
    simp only [Nat.add_sub_cancel]
    by_cases hk : k = 0
    · subst hk; rfl
    · rw [if_neg hk]; congr 3; omega
  | cons r rs ih =>
    intro n hn
    rw [tl, tl]
    by_cases hr : r = []
    · rw [if_pos hr, if_pos hr]; exact ih (n + 1) (by omega)
    · rw [if_neg hr, if_neg hr]
      unfold endsN
      rw [if_neg (by omega), if_neg (by omega), show (n + 1) * 1 + 0 = n + 1 by omega, show n * 1 + 0 = n by omega, crlf_succ]
      rfl

theorem tl_one (r : List Nat) (rs : List (List Nat)) : tl (endsN 1 0) (rowT 0) 1 (r :: rs) = 13 :: 10 :: (r ++ tl (endsN 1 0) (rowT 0) 1 rs) := by
  rw [tl]
  by_cases hr : r = []
  · rw [if_pos hr, hr]; exact tl_succ rs 1 (Nat.le_refl _)
  · rw [if_neg hr, rowT_zero]; rfl

theorem nf_tl : ∀ (p : Bool) (l : List Nat) (r : List Nat) (rs : List (List Nat)), rwf p l = r :: rs → nf p l = r ++ tl (endsN 1 0) (rowT 0) 1 rs
  | _, [], r, rs, e => by
    rw [rwf] at e; cases e; rfl
  | p, c :: t, r, rs, e => by
    rw [rwf] at e
    rw [nf]
    split at e
    · rename_i h13
      cases e
      rw [if_pos h13]
      obtain ⟨r', rs', e'⟩ := rwf_ne true t
      rw [nf_tl true t r' rs' e', e', tl_one]; rfl
    · rename_i h13
      rw [if_neg h13]
      split at e
      · rename_i h10
        rw [if_pos h10]
        split at e
        · rename_i hp; rw [if_pos hp]; exact nf_tl false t r rs e
        · rename_i hp
          cases e
          rw [if_neg hp]
          obtain ⟨r', rs', e'⟩ := rwf_ne false t
          rw [nf_tl false t r' rs' e', e', tl_one]; rfl
      · rename_i h10
        rw [if_neg h10]
        obtain ⟨r', rs', e'⟩ := rwf_ne false t
        rw [e'] at e
        cases e
        rw [nf_tl false t r' rs e']; rfl

theorem nf_rows (l : List Nat) : nf false l = tl (endsN 1 0) (rowT 0) 0 (rwf false l) := by
  obtain ⟨r, rs, e⟩ := rwf_ne false l
  rw [nf_tl false l r rs e, e, tl]
  by_cases hr : r = []
  · rw [if_pos hr, hr]; rfl
  · rw [if_neg hr, rowT_zero]; rfl

-- P3
theorem df_crlf : ∀ (k : Nat) (b : Bool) (rest : List Nat), df b (crlf k ++ rest) = crlf k ++ df (if k = 0 then b else true) rest
  | 0, b, rest => rfl
  | k + 1, b, rest => by
    rw [crlf_succ]
    show df b (13 :: 10 :: (crlf k ++ rest)) = _
    rw [df, if_neg (by simp), df, if_neg (by simp), df_crlf k _ rest]
    by_cases hk : k = 0
    · subst hk; simp
    · simp [hk]

theorem df_clean : ∀ (u rest : List Nat), (∀ c ∈ u, c ≠ 10) → df false (u ++ rest) = u ++ df false rest
  | [], _, _ => rfl
  | c :: u, rest, h => by
    have hc : c ≠ 10 := h c (.head _)
    show df false (c :: (u ++ rest)) = _
    rw [df, if_neg (by simp), beq_eq_false_iff_ne.mpr hc, df_clean u rest (fun d hd => h d (.tail _ hd))]; rfl

theorem df_row (d : Nat) (r rest : List Nat) (hr : r ≠ []) (hc : clean r) : df true (rowT d r ++ rest) = rowT (d + 1) r ++ df false rest := by
  cases r with
  | nil => exact absurd rfl hr
  | cons c u =>
    have hu : ∀ x ∈ u, x ≠ 10 := fun x hx => (hc x (.tail _ hx)).1
    unfold rowT
    by_cases h46 : c = 46
    · subst h46
      have hh : (46 :: u).head? = some 46 := rfl
      rw [if_pos hh, if_pos hh]
      have e : List.replicate d 46 ++ 46 :: u = 46 :: (List.replicate d 46 ++ u) := by
        rw [← List.cons_append, ← List.replicate_succ, List.replicate_succ', List.append_assoc]; rfl
      rw [e]
      show df true (46 :: (List.replicate d 46 ++ u ++ rest)) = _
      rw [df, if_pos ⟨rfl, rfl⟩, df_clean (List.replicate d 46 ++ u) rest (fun x hx => by
        rcases List.mem_append.mp hx with q | q
        · rw [List.eq_of_mem_replicate q]; decide
        · exact hu x q)]
      rw [List.replicate_succ, List.cons_append, e]
      simp
    · have hh : ¬ ((c :: u).head? = some 46) := by simpa using h46
      rw [if_neg hh, if_neg hh]
      show df true (c :: (u ++ rest)) = _
      rw [df, if_neg (fun q => h46 q.2), beq_eq_false_iff_ne.mpr (hc c (.head _)).1, df_clean u rest hu]; rfl

theorem df_tl (t m d : Nat) (ht : 1 ≤ t) : ∀ (rows : List (List Nat)) (n : Nat) (b : Bool), (∀ r ∈ rows, clean r) → (b = true ∨ 1 ≤ n) → df b (tl (endsN t m) (rowT d) n rows) = tl (endsN t m) (rowT (d + 1)) n rows
  | [], n, b, _, _ => by
    show df b (endsN t m (n - 1)) = endsN t m (n - 1)
    unfold endsN
    have := df_crlf (if n - 1 = 0 then 0 else (n - 1) * t + m) b []
    simpa [df] using this
  | r :: rs, n, b, hc, hb => by
    rw [tl, tl]
    by_cases hr : r = []
    · rw [if_pos hr, if_pos hr]
      exact df_tl t m d ht rs (n + 1) b (fun x hx => hc x (.tail _ hx)) (.inr (by omega))
    · rw [if_neg hr, if_neg hr]
      have hk : (if (if n = 0 then 0 else n * t + m) = 0 then b else true) = true := by
        by_cases hn : n = 0
        · rw [if_pos hn, if_pos rfl]; exact hb.resolve_right (by omega)
        · rw [if_neg hn, if_neg]
          have : 1 ≤ n * t := Nat.mul_pos (by omega) (by omega)
          omega
      rw [List.append_assoc, List.append_assoc]
      unfold endsN
      rw [df_crlf, hk, df_row d r _ hr (hc r (.head _))]
      congr 2
      exact df_tl t m d ht rs 1 false (fun x hx => hc x (.tail _ hx)) (.inr (Nat.le_refl _))

-- P4
def ψ (f s : List Nat) (c : Nat) : List Nat := if c = 13 then f.flatMap (fun d => if d = 10 then s else [d]) else if c = 10 then s else [c]
def wordL (f s : List Nat) : List Nat := f.flatMap (fun d => if d = 10 then s else [d]) ++ s
def pow (w : List Nat) (k : Nat) : List Nat := (List.replicate k w).flatten
theorem pow_succ (w : List Nat) (k : Nat) : pow w (k + 1) = w ++ pow w k := by simp [pow, List.replicate_succ]

theorem rep_crlf (f s : List Nat) (k : Nat) : (crlf k).flatMap (ψ f s) = pow (wordL f s) k := by
  induction k with
  | zero => rfl
  | succ k ih =>
    rw [crlf_succ, pow_succ, List.flatMap_cons, List.flatMap_cons, ih, ← List.append_assoc]; rfl
theorem rep_clean (f s : List Nat) : ∀ (u : List Nat), clean u → u.flatMap (ψ f s) = u
  | [], _ => rfl
  | c :: u, h => by
    have hc := h c (.head _)
    rw [List.flatMap_cons, rep_clean f s u (fun d hd => h d (.tail _ hd))]
    unfold ψ
    rw [if_neg hc.2, if_neg hc.1]; rfl
theorem clean_rowT {d : Nat} {r : List Nat} (h : clean r) : clean (rowT d r) := by
  unfold rowT
  split
  · intro c hc
    rcases List.mem_append.mp hc with q | q
    · rw [List.eq_of_mem_replicate q]; decide
    · exact h c q
  · exact h
theorem rep_tl (f s : List Nat) (e : Nat → List Nat) (d : Nat) : ∀ (rows : List (List Nat)) (n : Nat), (∀ r ∈ rows, clean r) → (tl e (rowT d) n rows).flatMap (ψ f s) = tl (fun g => (e g).flatMap (ψ f s)) (rowT d) n rows
  | [], n, _ => rfl
  | r :: rs, n, hc => by
    rw [tl, tl]
    by_cases hr : r = []
    · rw [if_pos hr, if_pos hr]; exact rep_tl f s e d rs (n + 1) (fun x hx => hc x (.tail _ hx))
    · rw [if_neg hr, if_neg hr, List.flatMap_append, List.flatMap_append, rep_clean f s _ (clean_rowT (hc r (.head _))), rep_tl f s e d rs 1 (fun x hx => hc x (.tail _ hx))]

theorem nf_app : ∀ (p : Bool) (a : List Nat) (c : Nat) (b : List Nat), c ≠ 10 → c ≠ 13 → nf p (a ++ c :: b) = nf p a ++ c :: nf false b
  | p, [], c, b, h1, h2 => by
    show nf p (c :: b) = c :: nf false b
    conv => lhs; rw [nf]
    rw [if_neg h2, if_neg h1]
  | p, x :: a, c, b, h1, h2 => by
    show nf p (x :: (a ++ c :: b)) = nf p (x :: a) ++ _
    rw [nf, nf]
    split
    · rw [nf_app true a c b h1 h2]; rfl
    · split
      · split
        · exact nf_app false a c b h1 h2
        · rw [nf_app false a c b h1 h2]; rfl
      · rw [nf_app false a c b h1 h2]; rfl
theorem nf_clean : ∀ (u rest : List Nat), clean u → nf false (u ++ rest) = u ++ nf false rest
  | [], _, _ => rfl
  | c :: u, rest, h => by
    have hc := h c (.head _)
    show nf false (c :: (u ++ rest)) = _
    rw [nf, if_neg hc.2, if_neg hc.1, nf_clean u rest (fun d hd => h d (.tail _ hd))]; rfl
theorem nf_row (p : Bool) (a u rest : List Nat) (hu : u ≠ []) (hc : clean u) : nf p (a ++ u ++ rest) = nf p a ++ u ++ nf false rest := by
  cases u with
  | nil => exact absurd rfl hu
  | cons c u =>
    have h := hc c (.head _)
    rw [List.append_assoc]
    show nf p (a ++ c :: (u ++ rest)) = _
    rw [nf_app p a c _ h.1 h.2, nf_clean u rest (fun d hd => hc d (.tail _ hd))]; simp
theorem rowT_ne {d : Nat} {r : List Nat} (h : r ≠ []) : rowT d r ≠ [] := by
  unfold rowT
  split
  · simp [h]
  · exact h
theorem nf_tlG (e : Nat → List Nat) (d : Nat) : ∀ (rows : List (List Nat)) (n : Nat), (∀ r ∈ rows, clean r) → nf false (tl e (rowT d) n rows) = tl (fun g => nf false (e g)) (rowT d) n rows
  | [], n, _ => rfl
  | r :: rs, n, hc => by
    rw [tl, tl]
    by_cases hr : r = []
    · rw [if_pos hr, if_pos hr]; exact nf_tlG e d rs (n + 1) (fun x hx => hc x (.tail _ hx))
    · rw [if_neg hr, if_neg hr, nf_row false _ _ _ (rowT_ne hr) (clean_rowT (hc r (.head _))), nf_tlG e d rs 1 (fun x hx => hc x (.tail _ hx))]

def cnt : Bool → List Nat → Nat
  | _, [] => 0
  | p, c :: t => if c = 13 then 1 + cnt true t else (if p = true then 0 else 1) + cnt false t
def lst13 : Bool → List Nat → Bool
  | p, [] => p
  | _, c :: t => lst13 (c == 13) t
theorem nf_cnt : ∀ (p : Bool) (w : List Nat), (∀ c ∈ w, c = 10 ∨ c = 13) → nf p w = crlf (cnt p w)
  | _, [], _ => rfl
  | p, c :: t, h => by
    have ht := fun d hd => h d (.tail _ hd)
    rw [nf, cnt]
    by_cases h13 : c = 13
    · rw [if_pos h13, if_pos h13, nf_cnt true t ht, Nat.add_comm 1, crlf_succ]
    · have h10 : c = 10 := (h c (.head _)).resolve_right h13
      rw [if_neg h13, if_neg h13, if_pos h10, nf_cnt false t ht]
      split
      · rw [Nat.zero_add]
      · rw [Nat.add_comm 1, crlf_succ]
theorem cnt_app : ∀ (p : Bool) (a b : List Nat), (∀ c ∈ a, c = 10 ∨ c = 13) → cnt p (a ++ b) = cnt p a + cnt (lst13 p a) b
  | p, [], b, _ => by show cnt p b = 0 + cnt p b; omega
  | p, c :: a, b, h => by
    have ha := fun d hd => h d (.tail _ hd)
    show cnt p (c :: (a ++ b)) = cnt p (c :: a) + cnt (lst13 (c == 13) a) b
    rw [cnt, cnt]
    by_cases h13 : c = 13
    · rw [if_pos h13, if_pos h13, cnt_app true a b ha, beq_iff_eq.mpr h13]; omega
    · rw [if_neg h13, if_neg h13, cnt_app false a b ha, beq_eq_false_iff_ne.mpr h13]; omega
theorem lst13_ne : ∀ (w : List Nat) (p q : Bool), w ≠ [] → lst13 p w = lst13 q w
  | [], _, _, h => absurd rfl h
  | c :: t, p, q, _ => rfl
theorem cnt_pow {w : List Nat} {e sm : Nat} (hw : ∀ c ∈ w, c = 10 ∨ c = 13) (hne : w ≠ []) (h1 : cnt false w = e + sm) (h2 : cnt (lst13 false w) w = e) :
    ∀ k, cnt (lst13 false w) (pow w k) = k * e ∧ cnt false (pow w k) = if k = 0 then 0 else k * e + sm
  | 0 => ⟨by simp [pow, cnt], by simp [pow, cnt]⟩
  | k + 1 => by
    obtain ⟨i1, _⟩ := cnt_pow hw hne h1 h2 k
    rw [pow_succ, cnt_app _ _ _ hw, cnt_app _ _ _ hw, lst13_ne w (lst13 false w) false hne, h1, h2, i1, if_neg (by omega)]
    refine ⟨?_, ?_⟩
    · rw [Nat.add_mul]; omega
    · rw [Nat.add_mul]; omega

theorem nf_pow {w : List Nat} {e sm : Nat} (hw : ∀ c ∈ w, c = 10 ∨ c = 13) (hne : w ≠ []) (h1 : cnt false w = e + sm) (h2 : cnt (lst13 false w) w = e) (k : Nat) : nf false (pow w k) = crlf (if k = 0 then 0 else k * e + sm) := by
  rw [nf_cnt, (cnt_pow hw hne h1 h2 k).2]
  intro c hc
  unfold pow at hc
  obtain ⟨l, hl, hcl⟩ := List.mem_flatten.mp hc
  rw [List.eq_of_mem_replicate hl] at hcl
  exact hw c hcl

theorem round_tl {f s : List Nat} {e sm t m d : Nat} (hw : ∀ c ∈ wordL f s, c = 10 ∨ c = 13) (hne : wordL f s ≠ []) (h1 : cnt false (wordL f s) = e + sm) (h2 : cnt (lst13 false (wordL f s)) (wordL f s) = e) (ht : 1 ≤ t)
    (rows : List (List Nat)) (hc : ∀ r ∈ rows, clean r) :
    nf false ((tl (endsN t m) (rowT d) 0 rows).flatMap (ψ f s)) = tl (endsN (t * e) (m * e + sm)) (rowT d) 0 rows := by
  rw [rep_tl f s _ d rows 0 hc, nf_tlG _ d rows 0 hc]
  congr 1
  funext g
  unfold endsN
  rw [rep_crlf, nf_pow hw hne h1 h2]
  by_cases hg : g = 0
  · rw [if_pos hg, if_pos hg, if_pos rfl]
  · have hpos : 1 ≤ g * t := Nat.mul_pos (by omega) (by omega)
    rw [if_neg hg, if_neg hg, if_neg (by omega)]
    congr 1
    rw [Nat.add_mul, Nat.mul_assoc]; omega
end
end Mine
-- PureS
namespace Mine
section
open PySem PySem.W PyProof.Rows

theorem crlf_list : (Str.ofString "\x0d\n").cps.toList = [13, 10] := by decide +kernel
theorem split_crlf (x : Str) : (Txt.split x (Str.ofString "\x0d\n")).map (·.cps.toList) = spl [13, 10] 0 x.cps.toList := by
  rw [split_spl x _ (by decide +kernel) (by decide +kernel), crlf_list]
def joinL (z : List Nat) : List (List Nat) → List Nat
  | [] => []
  | [x] => x
  | x :: y :: r => x ++ z ++ joinL z (y :: r)
theorem join_list' (z : Str) : ∀ ys : List Str, (Str.join z ys).cps.toList = joinL z.cps.toList (ys.map (·.cps.toList))
  | [] => rfl
  | [x] => rfl
  | x :: y :: r => by
    show ((x ++ z) ++ Str.join z (y :: r)).cps.toList = _
    rw [Str.cps_append, Str.cps_append, Array.toList_append, Array.toList_append, join_list' z (y :: r)]
    rfl
abbrev jc (rs : List (List Nat)) : List Nat := joinL [13, 10] rs
theorem joinL_cons (z r : List Nat) {rs : List (List Nat)} (h : rs ≠ []) : joinL z (r :: rs) = r ++ z ++ joinL z rs := by
  cases rs with
  | nil => exact absurd rfl h
  | cons a b => rfl

-- the cuts of a mail
theorem spl_end : ∀ u : List Nat, clean u → spl [13, 10] 0 u = [u]
  | [], _ => rfl
  | c :: u, h => by
    have hc := h c (.head _)
    rw [spl, if_neg (fun q => hc.2 (by simpa using congrArg List.head? q)), spl_end u (fun d hd => h d (.tail _ hd))]; rfl
theorem spl_cut (t : List Nat) : ∀ u : List Nat, clean u → spl [13, 10] 0 (u ++ 13 :: 10 :: t) = u :: spl [13, 10] 0 t
  | [], _ => by
    show spl [13, 10] 0 (13 :: 10 :: t) = _
    rw [spl, if_pos (by simp)]; rfl
  | c :: u, h => by
    have hc := h c (.head _)
    show spl [13, 10] 0 (c :: (u ++ 13 :: 10 :: t)) = _
    rw [spl, if_neg (fun q => hc.2 (by simpa using congrArg List.head? q)), spl_cut t u (fun d hd => h d (.tail _ hd))]; rfl
theorem spl_jc : ∀ rs : List (List Nat), rs ≠ [] → (∀ r ∈ rs, clean r) → spl [13, 10] 0 (jc rs) = rs
  | [], h, _ => absurd rfl h
  | [r], _, h => spl_end r (h r (.head _))
  | r :: r2 :: rs, _, h => by
    show spl [13, 10] 0 (r ++ [13, 10] ++ jc (r2 :: rs)) = _
    rw [List.append_assoc]
    show spl [13, 10] 0 (r ++ 13 :: 10 :: jc (r2 :: rs)) = _
    rw [spl_cut _ r (h r (.head _)), spl_jc (r2 :: rs) (by simp) (fun x hx => h x (.tail _ hx))]

-- a block between the rows
def inter (b : List (List Nat)) : List (List Nat) → List (List Nat)
  | [] => []
  | [r] => [r]
  | r :: r2 :: rs => r :: (b ++ inter b (r2 :: rs))
theorem inter_ne (b : List (List Nat)) (r : List Nat) (rs : List (List Nat)) : inter b (r :: rs) ≠ [] := by
  cases rs <;> simp [inter]
theorem inter_cons (b : List (List Nat)) (r : List Nat) {rs : List (List Nat)} (h : rs ≠ []) : inter b (r :: rs) = r :: (b ++ inter b rs) := by
  cases rs with
  | nil => exact absurd rfl h
  | cons a c => rfl
def blkT (b : List (List Nat)) : List Nat := (b.map (· ++ [13, 10])).flatten
theorem jc_app (X : List (List Nat)) (hX : X ≠ []) : ∀ b : List (List Nat), jc (b ++ X) = blkT b ++ jc X
  | [] => rfl
  | r :: b => by
    show joinL [13, 10] (r :: (b ++ X)) = _
    rw [joinL_cons _ _ (by simp [hX])]
    show r ++ [13, 10] ++ jc (b ++ X) = _
    rw [jc_app X hX b]
    simp [blkT]
theorem join_inter (b : List (List Nat)) : ∀ rs : List (List Nat), joinL ([13, 10] ++ blkT b) rs = jc (inter b rs)
  | [] => rfl
  | [r] => rfl
  | r :: r2 :: rs => by
    show r ++ ([13, 10] ++ blkT b) ++ joinL ([13, 10] ++ blkT b) (r2 :: rs) = joinL [13, 10] (r :: (b ++ inter b (r2 :: rs)))
    rw [join_inter b (r2 :: rs), joinL_cons _ _ (by simp [inter_ne])]
    show _ = r ++ [13, 10] ++ jc (b ++ inter b (r2 :: rs))
    rw [jc_app _ (inter_ne b r2 rs)]
    simp
theorem inter_mem (b : List (List Nat)) : ∀ rs : List (List Nat), ∀ r ∈ inter b rs, r ∈ b ∨ r ∈ rs
  | [], r, h => by cases h
  | [x], r, h => .inr h
  | x :: y :: rs, r, h => by
    rcases List.mem_cons.mp h with q | q
    · exact .inr (q ▸ .head _)
    · rcases List.mem_append.mp q with q | q
      · exact .inl q
      · rcases inter_mem b (y :: rs) r q with q | q
        · exact .inl q
        · exact .inr (.tail _ q)

-- sending
theorem nf_jc : ∀ rs : List (List Nat), (∀ r ∈ rs, clean r) → nf false (jc rs) = jc rs
  | [], _ => rfl
  | [r], h => by
    show nf false r = r
    have := nf_clean r [] (h r (.head _))
    simpa [nf] using this
  | r :: r2 :: rs, h => by
    show nf false (r ++ [13, 10] ++ jc (r2 :: rs)) = r ++ [13, 10] ++ jc (r2 :: rs)
    rw [List.append_assoc, nf_clean r _ (h r (.head _))]
    congr 1
    show nf false (13 :: 10 :: jc (r2 :: rs)) = 13 :: 10 :: jc (r2 :: rs)
    rw [nf, if_pos rfl, nf, if_neg (by decide), if_pos rfl, if_pos rfl, nf_jc (r2 :: rs) (fun x hx => h x (.tail _ hx))]
theorem df_end (r : List Nat) (h : clean r) : df true r = rowT 1 r := by
  by_cases hr : r = []
  · subst hr; rfl
  · have := df_row 0 r [] hr h
    rw [rowT_zero] at this
    simpa [df] using this
theorem df_cut (r t : List Nat) (h : clean r) : df true (r ++ 13 :: 10 :: t) = rowT 1 r ++ 13 :: 10 :: df true t := by
  have e : ∀ b, df b (13 :: 10 :: t) = 13 :: 10 :: df true t := by
    intro b
    rw [df, if_neg (by simp), df, if_neg (by simp)]; rfl
  by_cases hr : r = []
  · subst hr; exact e true
  · have := df_row 0 r (13 :: 10 :: t) hr h
    rw [rowT_zero] at this
    rw [this, e]
theorem df_jc : ∀ rs : List (List Nat), (∀ r ∈ rs, clean r) → df true (jc rs) = jc (rs.map (rowT 1))
  | [], _ => rfl
  | [r], h => df_end r (h r (.head _))
  | r :: r2 :: rs, h => by
    show df true (r ++ [13, 10] ++ jc (r2 :: rs)) = rowT 1 r ++ [13, 10] ++ jc ((r2 :: rs).map (rowT 1))
    rw [List.append_assoc, ← df_jc (r2 :: rs) (fun x hx => h x (.tail _ hx)), List.append_assoc]
    exact df_cut r _ (h r (.head _))

-- the places
def gp (b : List (List Nat)) (f : Nat → List Nat) (p : Nat) : List Nat := if p % (b.length + 1) = 0 then f (p / (b.length + 1)) else b.getD (p % (b.length + 1) - 1) []
theorem range_getD (b : List (List Nat)) : (List.range b.length).map (fun p => b.getD p []) = b := by
  apply List.ext_getElem
  · simp
  · intro i h1 h2
    simp [List.getElem_map, List.getElem_range, h2]
theorem inter_range (b : List (List Nat)) : ∀ (n : Nat) (f : Nat → List Nat), inter b ((List.range (n + 1)).map f) = (List.range (n * (b.length + 1) + 1)).map (gp b f)
  | 0, f => by simp [inter, gp, List.range_succ]
  | n + 1, f => by
    have e1 : (List.range (n + 1 + 1)).map f = f 0 :: (List.range (n + 1)).map (fun p => f (p + 1)) := by
      rw [List.range_succ_eq_map, List.map_cons, List.map_map]; rfl
    rw [e1, inter_cons _ _ (by simp), inter_range b n (fun p => f (p + 1))]
    have e2 : (n + 1) * (b.length + 1) + 1 = (b.length + 1) + (n * (b.length + 1) + 1) := by rw [Nat.add_mul]; omega
    rw [e2, List.range_add (n := b.length + 1), List.map_append, List.map_map]
    have e3 : (List.range (b.length + 1)).map (gp b f) = f 0 :: b := by
      rw [List.range_succ_eq_map, List.map_cons, List.map_map]
      congr 1
      · simp [gp]
      · conv => rhs; rw [← range_getD b]
        apply List.map_congr_left
        intro p hp
        have := List.mem_range.mp hp
        show gp b f (p + 1) = _
        unfold gp
        rw [Nat.mod_eq_of_lt (by omega), if_neg (by omega)]; rfl
    rw [e3]
    show f 0 :: (b ++ _) = f 0 :: (b ++ _)
    congr 2
    apply List.map_congr_left
    intro p _
    show gp b (fun p => f (p + 1)) p = gp b f (b.length + 1 + p)
    unfold gp
    rw [Nat.add_mod_left, Nat.add_div_left _ (by omega)]

def allRows (bord : List (List Nat)) (prev : List (List (List Nat))) : List (List Nat) := (List.range (cntB (prev.map (·.length)) + 1)).map (ra bord prev)
theorem rows_step (bord : List (List Nat)) (prev : List (List (List Nat))) (b : List (List Nat)) : (inter b (allRows bord prev)).map (rowT 1) = allRows bord (b :: prev) := by
  unfold allRows
  rw [inter_range, List.map_map]
  have e : cntB ((b :: prev).map (·.length)) = cntB (prev.map (·.length)) * (b.length + 1) := by
    show (b.length + 1) * _ = _
    rw [Nat.mul_comm]
  rw [e]
  apply List.map_congr_left
  intro p _
  show rowT 1 (gp b (ra bord prev) p) = ra bord (b :: prev) p
  unfold gp
  rw [ra]
  split <;> rfl
theorem clean_rowT' {d : Nat} {r : List Nat} (h : clean r) : clean (rowT d r) := clean_rowT h
theorem clean_getD {l : List (List Nat)} (h : ∀ r ∈ l, clean r) (k : Nat) : clean (l.getD k []) := by
  rw [List.getD_eq_getElem?_getD]
  cases q : l[k]? with
  | none => intro c hc; cases hc
  | some r => exact h r (List.mem_of_getElem? q)
theorem ra_clean {bord : List (List Nat)} (hb : ∀ r ∈ bord, clean r) : ∀ (prev : List (List (List Nat))), (∀ b ∈ prev, ∀ r ∈ b, clean r) → ∀ p, clean (ra bord prev p)
  | [], _, p => clean_getD hb p
  | b :: bs, h, p => by
    rw [ra]
    split
    · exact clean_rowT (ra_clean hb bs (fun x hx => h x (.tail _ hx)) _)
    · exact clean_rowT (clean_getD (h b (.head _)) _)
theorem len_getD {l : List (List Nat)} {M : Nat} (h : ∀ r ∈ l, r.length ≤ M) (k : Nat) : (l.getD k []).length ≤ M := by
  rw [List.getD_eq_getElem?_getD]
  cases q : l[k]? with
  | none => exact Nat.zero_le _
  | some r => exact h r (List.mem_of_getElem? q)
theorem ra_len {bord : List (List Nat)} {M : Nat} (hb : ∀ r ∈ bord, r.length ≤ M) : ∀ (prev : List (List (List Nat))), (∀ b ∈ prev, ∀ r ∈ b, r.length ≤ M) → ∀ p, (ra bord prev p).length ≤ M + prev.length
  | [], _, p => len_getD hb p
  | b :: bs, h, p => by
    rw [ra]
    split
    · have h1 := rowT_len 1 (ra bord bs (p / (b.length + 1)))
      have h2 := ra_len hb bs (fun x hx => h x (.tail _ hx)) (p / (b.length + 1))
      simp only [List.length_cons]; omega
    · have h1 := rowT_len 1 (b.getD (p % (b.length + 1) - 1) [])
      have h2 := len_getD (h b (.head _)) (p % (b.length + 1) - 1)
      simp only [List.length_cons]; omega
theorem jc_len {M : Nat} : ∀ rs : List (List Nat), (∀ r ∈ rs, r.length ≤ M) → (jc rs).length ≤ rs.length * (M + 2)
  | [], _ => Nat.zero_le _
  | [r], h => by have := h r (.head _); show r.length ≤ 1 * (M + 2); omega
  | r :: r2 :: rs, h => by
    have h1 := h r (.head _)
    have h2 := jc_len (r2 :: rs) (fun x hx => h x (.tail _ hx))
    show (r ++ [13, 10] ++ jc (r2 :: rs)).length ≤ ((r2 :: rs).length + 1) * (M + 2)
    simp only [List.length_append, List.length_cons, List.length_nil] at h2 ⊢
    rw [Nat.add_mul]; omega

def mailS (bord : List (List Nat)) (prev : List (List (List Nat))) : Str := ⟨(jc (allRows bord prev)).toArray⟩
theorem allRows_ne (bord : List (List Nat)) (prev : List (List (List Nat))) : allRows bord prev ≠ [] := by
  unfold allRows; simp
theorem mail_step {bord : List (List Nat)} {prev : List (List (List Nat))} {b : List (List Nat)} {z : Str} (hb : ∀ r ∈ bord, clean r) (hp : ∀ b ∈ prev, ∀ r ∈ b, clean r) (hc : ∀ r ∈ b, clean r)
    (hz : z.cps.toList = [13, 10] ++ blkT b) : quoted (rep1 (mailS bord prev) (Str.ofString "\x0d\n", z)) = mailS bord (b :: prev) := by
  have hcl : ∀ r ∈ allRows bord prev, clean r := by
    intro r hr
    obtain ⟨p, _, rfl⟩ := List.mem_map.mp hr
    exact ra_clean hb prev hp p
  have e1 : (rep1 (mailS bord prev) (Str.ofString "\x0d\n", z)).cps.toList = jc (inter b (allRows bord prev)) := by
    unfold rep1 Txt.join
    rw [StrLaws.glued_eq_join, join_list', split_crlf]
    show joinL z.cps.toList (spl [13, 10] 0 (jc (allRows bord prev)).toArray.toList) = _
    rw [hz, spl_jc _ (allRows_ne _ _) hcl, join_inter]
  have hci : ∀ r ∈ inter b (allRows bord prev), clean r := fun r hr => (inter_mem b _ r hr).elim (hc r) (hcl r)
  unfold quoted
  rw [e1, nf_jc _ hci, df_jc _ hci, rows_step]
  rfl
theorem mail_len {bord : List (List Nat)} {prev : List (List (List Nat))} {M : Nat} (hb : ∀ r ∈ bord, r.length ≤ M) (hp : ∀ b ∈ prev, ∀ r ∈ b, r.length ≤ M) :
    (mailS bord prev).length ≤ (cntB (prev.map (·.length)) + 1) * (M + prev.length + 2) := by
  show (jc (allRows bord prev)).toArray.size ≤ _
  rw [List.size_toArray]
  have h := jc_len (M := M + prev.length) (allRows bord prev) (by
    intro r hr
    obtain ⟨p, _, rfl⟩ := List.mem_map.mp hr
    exact ra_len hb prev hp p)
  have e : (allRows bord prev).length = cntB (prev.map (·.length)) + 1 := by unfold allRows; simp
  rw [e] at h
  exact h
end
end Mine
-- Q02j
namespace Mine
section
open PySem PySem.W PyProof.Rows

def GoodRow (r : Str) : Prop := r.length ≤ 3 ∧ clean r.cps.toList
def mbody (p : Program) : List Stmt := match lst p 5 with | .For _ _ b _ _ => b | _ => []

theorem paired_strs' {F : Value → Value → Prop} {f : Str → Str} (hF : ∀ n t y, F (.str n t) y → ∃ u, y = .str (f n) u) {vs ys : List Value} (hp : Paired F vs ys) : ∀ {ns : List Str}, StrsAre vs ns → StrsAre ys (ns.map f) := by
  induction hp with
  | nil => intro ns h; cases h; exact .nil
  | cons h1 _ ih =>
    intro ns h
    cases h with
    | cons n t r =>
      obtain ⟨u, rfl⟩ := hF _ _ _ h1
      exact .cons _ u (ih r)
theorem strs_mem : ∀ {vs : List Value} {ns : List Str}, StrsAre vs ns → ∀ v ∈ vs, ∃ n t, v = .str n t ∧ n ∈ ns
  | _, _, .cons n t r, v, hv => by
    rcases List.mem_cons.mp hv with q | q
    · exact ⟨n, t, q, .head _⟩
    · obtain ⟨n', t', e, hm⟩ := strs_mem r v q
      exact ⟨n', t', e, .tail _ hm⟩

theorem blk_cat : ∀ b : List Str, cat (b.map (· ++ Str.ofString "\x0d\n")) = blkT (LLL b)
  | [] => rfl
  | r :: b => by
    have ih := blk_cat b
    unfold cat blkT LLL at *
    simp only [List.map_cons, List.flatten_cons]
    rw [ih, Str.cps_append, Array.toList_append, crlf_list]
theorem blk_sum (b : List Str) (h : ∀ r ∈ b, r.length ≤ 3) : ((b.map (· ++ Str.ofString "\x0d\n")).map (·.length)).sum ≤ 5 * b.length := by
  induction b with
  | nil => simp
  | cons r b ih =>
    have h1 := h r (.head _)
    have h2 := ih (fun x hx => h x (.tail _ hx))
    have e : (r ++ Str.ofString "\x0d\n").length = r.length + 2 := by
      rw [Str.length_append]
      have : (Str.ofString "\x0d\n").length = 2 := by decide +kernel
      omega
    simp only [List.map_cons, List.sum_cons, List.length_cons] at *
    omega
theorem cat_len' : ∀ ys : List Str, (cat ys).length = (ys.map (·.length)).sum
  | [] => rfl
  | y :: r => by
    have h := cat_len' r
    have e : y.cps.toList.length = y.length := by simp [Str.length]
    show (y.cps.toList ++ cat r).length = _
    rw [List.length_append, h, e]; rfl

section
variable {w : World} {A : Around} {E : Value → Shared → Prop} {s : Shared} {mg mb : Str → Option Value} {h₀ : Heap} {L fa : Addr} {cd : Value} {m : Str → Option Value} {cb : Option Value}

theorem law_s4 {Dr : Addr} {itr : Array Value} {r0 r1 : Str} {rest : List Str} {Q : Flow → Shared → Prop}
    (S : LS h₀ L m (some (.ref Dr)) cb s.heap) (hDr : s.heap.IsList Dr itr) (hir : StrsAre itr.toList (r0 :: r1 :: rest)) (hl : rest.length ≤ 100) (h0 : r0.length ≤ 1000) (h1 : r1.length ≤ 1000)
    (h : ∀ t s', LS h₀ L (fun z => if z = "mail" then some (.str (mailS (LLL [r0, r1]) []) t) else m z) (some (.ref Dr)) cb s'.heap → Upd L s s' → Q .next s') :
    wpAny (model PP w) A (exec (lst PP 4) (lenv L fa cd)) Q E s := by
  have hsl : sizeLine = 16777216 := sizeLine_eq
  have hsz : itr.size = rest.length + 2 := by have := hir.len_eq; simpa using this
  obtain ⟨t0, g0⟩ := StrsAre.get' hir (k := 0) (by simp)
  obtain ⟨t1, g1⟩ := StrsAre.get' hir (k := 1) (by simp)
  have hcl : (Str.ofString "\x0d\n").length = 2 := by decide +kernel
  refine wpAny_Assign_Name ?_
  refine wpAny_BinOp ?_
  refine wpAny_BinOp ?_
  refine list_item ?_
  refine ldRows S ?_
  refine ci_k fun s₁ t₁ k₁ => ⟨Dr, itr, 0, _, _, rfl, rfl, hDr.at fun o e => kp_kept k₁ _ _ e, by omega, by omega, by rw [← Array.getElem?_toList]; exact g0, ?_⟩
  refine cs_k fun s₂ t₂ k₂ => ?_
  refine add_str_k (by show r0.length + _ ≤ _; omega) fun s₃ t₃ k₃ => ?_
  have k₃' := kp_trans (kp_trans k₁ k₂) k₃
  have S₃ := S.keeps (kp_kept k₃')
  refine list_item ?_
  refine ldRows S₃ ?_
  refine ci_k fun s₄ t₄ k₄ => ⟨Dr, itr, 1, _, _, rfl, rfl, (hDr.at fun o e => kp_kept k₃' _ _ e).at fun o e => kp_kept k₄ _ _ e, by omega, by omega, by rw [← Array.getElem?_toList]; exact g1, ?_⟩
  refine add_str_k (by show (r0 ++ _).length + r1.length ≤ _; rw [Str.length_append]; omega) fun s₅ t₅ k₅ => ?_
  have k₅' := kp_trans (kp_trans k₃' k₄) k₅
  have e : r0 ++ Str.ofString "\x0d\n" ++ r1 = mailS (LLL [r0, r1]) [] := by
    apply Str.ext'
    apply Array.toList_inj.mp
    rw [Str.cps_append, Str.cps_append, Array.toList_append, Array.toList_append, crlf_list]
    rfl
  show wpAny _ A (storeName _ _ (.str (r0 ++ Str.ofString "\x0d\n" ++ r1) t₅)) _ _ s₅
  rw [e]
  exact stLS (S.keeps (kp_kept k₅')) fun s₆ S₆ u₆ => h _ _ S₆ ((Upd.of k₅').trans u₆)

set_option maxHeartbeats 1000000 in
theorem mail_body {a : Addr} {b : List Str} {bord : List (List Nat)} {prev : List (List (List Nat))} {tm : Tok} {cr : Option Value} {Q : Flow → Shared → Prop} (W : Wd (KK w) mg mb h₀) (hroom : A.depth < recursionLimit) (hh : A.handled = none)
    (S : LS h₀ L m cr cb s.heap) (hm1 : m "block" = some (.ref a)) (hm2 : m "mail" = some (.str (mailS bord prev) tm)) (ha : PAcc a b s.heap) (hb : ∀ r ∈ b, GoodRow r) (hbl : b.length ≤ 24)
    (hbord : ∀ r ∈ bord, clean r) (hprev : ∀ b ∈ prev, ∀ r ∈ b, clean r) (hml : (mailS bord prev).length ≤ 1000)
    (h : ∀ t s', LS h₀ L (fun z => if z = "mail" then some (.str (mailS bord (LLL b :: prev)) t) else m z) cr cb s'.heap → Upd L s s' → Q .next s') :
    wpAny (model PP w) A (execs (mbody PP) (lenv L fa cd)) Q E s := by
  have hsl : sizeLine = 16777216 := sizeLine_eq
  have W₀ : Wd (KK w) mg mb s.heap := W.keeps S.fr.keep
  have hcl : (Str.ofString "\x0d\n").length = 2 := by decide +kernel
  obtain ⟨its, hpl, hst⟩ := ha
  have hsz : its.size = b.length := by have := hst.len_eq; simpa using this
  refine wpAny_execs_cons ?_
  refine wpAny_Assign_Name ?_
  refine Call_fn W₀ (by rfl) (by rfl) (by rfl) ?_
  refine args_cons ?_
  refine Call_fn W₀ (by rfl) (by rfl) (by rfl) ?_
  refine args_cons (ldl S.fr.ns (by exact hm2) ?_)
  refine args_cons (cs_k fun s₁ t₁ k₁ => ?_)
  refine args_cons ?_
  refine wpAny_BinOp (cs_k fun s₂ t₂ k₂ => ?_)
  refine Call_str1 F.slot_str_join F.type_str_join ?_
  refine cs_k fun s₃ t₃ k₃ => ⟨_, _, rfl, ?_⟩
  have k₃' := kp_trans (kp_trans k₁ k₂) k₃
  have S₃ := S.keeps (kp_kept k₃')
  refine wpAny_ListComp_map (fun _ => true) (fun v y => ∃ r t u, v = .str r t ∧ y = .str (r ++ Str.ofString "\x0d\n") u) hh (by decide) (by decide) (by rfl) (by decide) (by rfl) ?_
  refine ldl S₃.fr.ns (by exact hm1) ⟨a, its, rfl, hpl.isList.at fun o e => kp_kept k₃' _ _ e, by omega, ?_, ?_, ?_⟩
  · intro C v s₄ m₄ E' hv hC hx hk
    exact wpAny_tests_nil ⟨rfl, kp_refl s₄⟩
  · intro C v s₄ m₄ E' hv _ hC hx hk
    obtain ⟨r, t, rfl, hmem⟩ := strs_mem hst v (by simpa using hv)
    have hr := (hb r hmem).1
    refine wpAny_BinOp ?_
    refine ldl hC hx ?_
    refine cs_k fun s₅ t₅ k₅ => ?_
    exact add_str_k (by omega) fun s₆ t₆ k₆ => ⟨⟨r, t, t₆, rfl, rfl⟩, kp_trans k₅ k₆⟩
  · intro D' h' tk ys hD' hlD hP hk
    have hys : StrsAre ys.toList (b.map (· ++ Str.ofString "\x0d\n")) := by
      refine paired_strs' (f := (· ++ Str.ofString "\x0d\n")) ?_ hP ?_
      · rintro n t y ⟨n', t', u, e1, e2⟩
        cases e1; exact ⟨u, e2⟩
      · rw [List.filter_eq_self.mpr (fun _ _ => rfl)]; exact hst
    have e0 : (Str.ofString "").cps = #[] := by decide +kernel
    have e0l : (Str.ofString "").length = 0 := by decide +kernel
    have hsum := blk_sum b (fun r hr => (hb r hr).1)
    have k₄ : Keeps s₃ { s₃ with heap := h', toks := tk } := ⟨h', tk, rfl, hk⟩
    refine join_call hlD hys (by rw [e0l]; omega) fun s₅ t₅ k₅ => ?_
    rw [txtJoin_empty _ e0]
    have hzc : (⟨(cat (b.map (· ++ Str.ofString "\x0d\n"))).toArray⟩ : Str).length ≤ 5 * b.length := by
      show (cat (b.map (· ++ Str.ofString "\x0d\n"))).toArray.size ≤ _
      rw [List.size_toArray, cat_len']; exact hsum
    refine add_str_k (by omega) fun s₆ t₆ k₆ => ?_
    have k₆' := kp_trans (kp_trans (kp_trans k₃' k₄) k₅) k₆
    refine args_nil ⟨k₆', ?_⟩
    have hzl : (Str.ofString "\x0d\n" ++ (⟨(cat (b.map (· ++ Str.ofString "\x0d\n"))).toArray⟩ : Str)).length ≤ 122 := by
      rw [Str.length_append]; omega
    have hze : (Str.ofString "\x0d\n" ++ (⟨(cat (b.map (· ++ Str.ofString "\x0d\n"))).toArray⟩ : Str)).cps.toList = [13, 10] ++ blkT (LLL b) := by
      rw [Str.cps_append, Array.toList_append, crlf_list, ← blk_cat]
    generalize (Str.ofString "\x0d\n" ++ (⟨(cat (b.map (· ++ Str.ofString "\x0d\n"))).toArray⟩ : Str)) = z at *
    have W₆ := W₀.keeps (kp_kept k₆')
    refine replace_spec (ps := [(Str.ofString "\x0d\n", z)]) W₆ hroom (.cons _ _ _ _ .nil) (by show 1 ≤ 2; omega) ⟨by omega, by show ((Str.ofString "\x0d\n").length == 0) = false; decide +kernel, by show z.length ≤ 1000; omega, trivial⟩ fun s₇ t₇ k₇ => ?_
    have k₇' := kp_trans k₆' k₇
    refine args_nil ⟨k₇', ?_⟩
    have hrl : (rep1 (mailS bord prev) (Str.ofString "\x0d\n", z)).length ≤ 400000 := by
      have h1 := split_sum (mailS bord prev) (Str.ofString "\x0d\n")
      have h2 := split_len (mailS bord prev) (Str.ofString "\x0d\n") (by omega)
      have h3 := size_glued z (Txt.split (mailS bord prev) (Str.ofString "\x0d\n"))
      have h4 : ((Txt.split (mailS bord prev) (Str.ofString "\x0d\n")).length - 1) * z.length ≤ 1002 * 122 := Nat.mul_le_mul (by omega) hzl
      have h5 : (rep1 (mailS bord prev) (Str.ofString "\x0d\n", z)).length = _ := h3
      omega
    refine quote_spec (W₀.keeps (kp_kept k₇')) hroom (by exact hrl) fun s₈ t₈ k₈ => ?_
    have eq : quoted (reps (mailS bord prev) [(Str.ofString "\x0d\n", z)]) = mailS bord (LLL b :: prev) := mail_step hbord hprev (by
      intro r hr
      obtain ⟨x, hx, rfl⟩ := List.mem_map.mp hr
      exact (hb x hx).2) hze
    rw [eq]
    have k₈' := kp_trans k₇' k₈
    refine stLS (S.keeps (kp_kept k₈')) fun s₉ S₉ u₉ => ?_
    exact wpAny_execs_nil (h _ _ S₉ ((Upd.of k₈').trans u₉))
end
end
end Mine
-- Q02k
namespace Mine
section
open PySem PySem.W PyProof.Rows

theorem szs_LLL (l : List (List Str)) : (l.map LLL).map (·.length) = szs l := by
  unfold szs LLL
  rw [List.map_map]
  apply List.map_congr_left
  intro b _
  simp
theorem one_block {bs : List (List Str)} {b : List Str} (hb : b ∈ bs) : b.length + 1 ≤ cntB (szs bs) := by
  induction bs with
  | nil => cases hb
  | cons c r ih =>
    show _ ≤ (c.length + 1) * cntB (szs r)
    rcases List.mem_cons.mp hb with q | q
    · rw [q]
      have := Nat.mul_le_mul (Nat.le_refl (c.length + 1)) (cntB_pos (szs r))
      omega
    · have h1 := ih q
      have := Nat.mul_le_mul (show 1 ≤ c.length + 1 by omega) (Nat.le_refl (cntB (szs r)))
      omega

section
variable {w : World} {A : Around} {E : Value → Shared → Prop} {s : Shared} {mg mb : Str → Option Value} {h₀ : Heap} {L fa : Addr} {cd : Value} {m : Str → Option Value} {cr : Option Value}

set_option maxHeartbeats 1000000 in
theorem law_s5 {B : Addr} {as : List Addr} {bs : List (List Str)} {brd : List Str} {tm : Tok} {Q : Flow → Shared → Prop} (W : Wd (KK w) mg mb h₀) (hroom : A.depth < recursionLimit) (hh : A.handled = none)
    (S : LS h₀ L m cr (some (.ref B)) s.heap) (hm : m "mail" = some (.str (mailS (LLL brd) []) tm)) (hB : s.heap.IsList B (as.map Value.ref).toArray) (hbs : Blks s.heap as bs)
    (hc : cntB (szs bs) ≤ 24) (hl : bs.length ≤ 13) (hg : ∀ b ∈ bs, ∀ r ∈ b, GoodRow r) (hgb : ∀ r ∈ brd, GoodRow r)
    (h : ∀ m' t s', LS h₀ L m' cr (some (.ref B)) s'.heap → m' "mail" = some (.str (mailS (LLL brd) (bs.reverse.map LLL)) t) → Upd L s s' → Q .next s') :
    wpAny (model PP w) A (exec (lst PP 5) (lenv L fa cd)) Q E s := by
  have hsl : sizeLine = 16777216 := sizeLine_eq
  have hal : as.length = bs.length := hbs.len
  refine for_walk ?_
  refine ldBlocks S ?_
  refine pyIter_list hB fun s₁ I k₁ hI hit hl₁ hne => ?_
  have S₁ := S.keeps (kp_kept k₁)
  have neI : ∀ {x : Addr} {o : Obj}, s.heap.get? x = some o → x ≠ I := fun hx q => by rw [q, hI] at hx; cases hx
  obtain ⟨oL, _, _, hoL, _⟩ := id S.fr.ns
  obtain ⟨oC, hoC, _⟩ := id S.cell
  obtain ⟨oC2, hoC2, _⟩ := id S.cell2
  have LI : L ≠ I := neI hoL
  have keep1 : Upds [L, I] s s₁ := Upds.of k₁
  have clB : ∀ r ∈ LLL brd, clean r := by
    intro r hr
    obtain ⟨x, hx, rfl⟩ := List.mem_map.mp hr
    exact (hgb x hx).2
  have mkLS : ∀ {s' : Shared} {m' : Str → Option Value}, Upds [L, I] s s' → s'.heap.Ns L m' → LS h₀ L m' cr (some (.ref B)) s'.heap := by
    intro s' m' u hn
    refine ⟨⟨hn, fun b o e => ?_, S.fr.above⟩, ?_, ?_⟩
    · refine u.kept b o (fun q => ?_) (S.fr.keep b o e)
      simp only [List.mem_cons, List.not_mem_nil, or_false] at q
      rcases q with q | q
      · exact Nat.ne_of_lt (Nat.lt_of_lt_of_le (Heap.lt_size e) S.fr.above) q
      · exact neI (S.fr.keep b o e) q
    · obtain ⟨o, ho, hd⟩ := S.cell
      exact ⟨o, u.kept _ o (by simp only [List.mem_cons, List.not_mem_nil, or_false, not_or]; exact ⟨ne1 L, neI hoC⟩) ho, hd⟩
    · obtain ⟨o, ho, hd⟩ := S.cell2
      exact ⟨o, u.kept _ o (by simp only [List.mem_cons, List.not_mem_nil, or_false, not_or]; exact ⟨ne2 L, neI hoC2⟩) ho, hd⟩
  have blkL : ∀ x ∈ as, x ≠ L ∧ x ≠ I := by
    intro x hx
    obtain ⟨i, e⟩ := List.getElem?_of_mem hx
    obtain ⟨b, _, p⟩ := hbs.get e
    obtain ⟨o, ho⟩ := p.some
    obtain ⟨_, hpl, _⟩ := p.acc
    exact ⟨ne_list S.fr.ns hpl, neI ho⟩
  refine ⟨I, _, _, _, _, _, fun i s' => Upds [L, I] s s' ∧ ∃ (m' : Str → Option Value) (t : Tok), s'.heap.Ns L m' ∧ m' "mail" = some (.str (mailS (LLL brd) ((bs.take i).reverse.map LLL)) t),
    rfl, Walks.list hh I B hne _, ⟨hit, hl₁⟩, ?_, ?_, ?_, ?_⟩
  · exact ⟨keep1, m, tm, S₁.fr.ns, hm⟩
  · rintro i s' h' tk ⟨u, m', t, hn, hmm⟩ hk
    refine ⟨?_, m', t, hn.at' fun o e => hk _ o (by simpa using LI) e, hmm⟩
    obtain ⟨h1, t1, rfl, kk⟩ := u
    exact ⟨h', tk, rfl, fun b o hb e => hk b o (fun q => hb (.tail _ q)) (kk b o hb e)⟩
  · rintro i v s' E' hi' hv ⟨u, m', t, hn, hmm⟩ ⟨hit', hl'⟩
    have hv' : (as.map Value.ref)[i]? = some v := by simpa using hv
    rw [List.getElem?_map] at hv'
    obtain ⟨a, ha, rfl⟩ := Option.map_eq_some_iff.mp hv'
    obtain ⟨b, hb, hP⟩ := hbs.get ha
    have hbm : b ∈ bs := List.mem_of_getElem? hb
    have ham : a ∈ as := List.mem_of_getElem? ha
    have S' := mkLS u hn
    have hPs : PAcc a b s'.heap := hP.at fun o e => u.kept _ _ (by simp only [List.mem_cons, List.not_mem_nil, or_false, not_or]; exact blkL a ham) e
    have htk : (bs.take (i + 1)).reverse = b :: (bs.take i).reverse := by
      rw [List.take_add_one, hb]; simp
    have memt : ∀ x ∈ (bs.take i).reverse, x ∈ bs := fun x hx => List.mem_of_mem_take (List.mem_reverse.mp hx)
    have hcp : ∀ c ∈ (bs.take i).reverse.map LLL, ∀ r ∈ c, clean r := by
      intro c hc' r hr
      obtain ⟨x, hx, rfl⟩ := List.mem_map.mp hc'
      obtain ⟨y, hy, rfl⟩ := List.mem_map.mp hr
      exact (hg x (memt x hx) y hy).2
    have hlen : (mailS (LLL brd) ((bs.take i).reverse.map LLL)).length ≤ 1000 := by
      have h1 := mail_len (bord := LLL brd) (prev := (bs.take i).reverse.map LLL) (M := 3) (by
        intro r hr
        obtain ⟨y, hy, rfl⟩ := List.mem_map.mp hr
        have := (hgb y hy).1
        simpa [Str.length] using this) (by
        intro c hc' r hr
        obtain ⟨x, hx, rfl⟩ := List.mem_map.mp hc'
        obtain ⟨y, hy, rfl⟩ := List.mem_map.mp hr
        have := (hg x (memt x hx) y hy).1
        simpa [Str.length] using this)
      rw [szs_LLL] at h1
      have h2 : cntB (szs (bs.take i).reverse) ≤ 24 := by
        unfold szs
        rw [List.map_reverse, cntB_reverse, List.map_take]
        exact Nat.le_trans (cntB_take _ _) hc
      have h3 : ((bs.take i).reverse.map LLL).length ≤ 13 := by
        rw [List.length_map, List.length_reverse, List.length_take]; omega
      have h4 : (cntB (szs (bs.take i).reverse) + 1) * (3 + ((bs.take i).reverse.map LLL).length + 2) ≤ 25 * 18 := Nat.mul_le_mul (by omega) (by omega)
      omega
    refine wpAny_assign_Name (stLS S' fun s₆ S₆ u₆ => ?_)
    have hbl := one_block hbm
    refine mail_body (a := a) (b := b) W hroom hh S₆ rfl (by exact hmm) (hPs.at fun o e => u₆.kept _ _ (blkL a ham).1 e) (hg b hbm) (by omega) clB hcp hlen ?_
    intro t₇ s₇ S₇ u₇
    have uu := u₆.trans u₇
    refine ⟨⟨?_, _, t₇, S₇.fr.ns, ?_⟩, hit'.at fun o e => uu.kept _ o (Ne.symm LI) e, hl'.at fun o e => uu.kept _ o (ne_list S'.fr.ns hl') e⟩
    · obtain ⟨h1, t1, rfl, kk⟩ := u
      obtain ⟨h2, t2, rfl, kk2⟩ := uu
      exact ⟨h2, t2, rfl, fun x o hx e => kk2 x o (fun q => hx (q ▸ .head _)) (kk x o hx e)⟩
    · rw [htk]; rfl
  · rintro s' ⟨u, m', t, hn, hmm⟩
    have hsz : (as.map Value.ref).toArray.size = bs.length := by simp [hal]
    rw [hsz, List.take_of_length_le (Nat.le_refl _)] at hmm
    refine h m' t s' (mkLS u hn) hmm ?_
    obtain ⟨h1, t1, rfl, kk⟩ := u
    refine ⟨h1, t1, rfl, fun b o hb e => kk b o (fun q => ?_) e⟩
    simp only [List.mem_cons, List.not_mem_nil, or_false] at q
    rcases q with q | q
    · exact hb q
    · exact neI e q
end
end
end Mine
-- Q02l
namespace Mine
section
open PySem PySem.W PyProof.Rows

theorem walks_bounded {prog : Program} {w : World} {A : Around} {I : Addr} {fp wr : List Addr} {n : Nat} {P : Nat → Value → Prop} {St : Nat → Heap → Prop} (W : Walks prog w A I fp wr n P St) : Walks prog w A I fp wr n (fun i v => i < n ∧ P i v) St where
  sub := W.sub
  frame := W.frame
  item := fun i s Q E hi st hQ => W.item i s Q E hi st fun v h' tk hP => hQ v h' tk ⟨hi, hP⟩
  done := W.done
  self := W.self

theorem place_strs {g : Nat → Str} {F : Value → Value → Prop} (hF : ∀ (p : Nat) t y, F (.int (p : Nat) t) y → ∃ u, y = .str (g p) u) {vs ys : List Value} (hp : Paired F vs ys) :
    ∀ k : Nat, (∀ (j : Nat) v, vs[j]? = some v → ∃ t, v = .int ((k + j : Nat) : Int) t) → StrsAre ys ((List.range vs.length).map fun p => g (k + p)) := by
  induction hp with
  | nil => intro k _; exact .nil
  | @cons v y vs' ys' h1 _ ih =>
    intro k hv
    obtain ⟨t, e⟩ := hv 0 _ rfl
    subst e
    obtain ⟨u, rfl⟩ := hF _ _ _ h1
    have hr := ih (k + 1) (fun j v hj => by
      obtain ⟨t, e⟩ := hv (j + 1) v hj
      exact ⟨t, by rw [e]; congr 2; omega⟩)
    rw [List.length_cons, List.range_succ_eq_map, List.map_cons, List.map_map]
    have e : ((fun p => g (k + p)) ∘ Nat.succ) = fun p => g (k + 1 + p) := by
      funext p; show g (k + (p + 1)) = g (k + 1 + p); congr 1; omega
    rw [e]
    exact .cons _ _ hr
theorem sum_le {M : Nat} : ∀ ys : List Str, (∀ y ∈ ys, y.length ≤ M) → (ys.map (·.length)).sum ≤ ys.length * M
  | [], _ => by simp
  | y :: r, h => by
    have h1 := sum_le r (fun x hx => h x (.tail _ hx))
    have h2 := h y (.head _)
    simp only [List.map_cons, List.sum_cons, List.length_cons]
    rw [Nat.add_mul]; omega

section
variable {w : World} {A : Around} {E : Value → Shared → Prop} {s : Shared} {mg mb : Str → Option Value} {h₀ : Heap} {L fa : Addr} {cd : Value} {m : Str → Option Value}

set_option maxHeartbeats 2000000 in
theorem law_s6 {Dr B : Addr} {as : List Addr} {bs : List (List Str)} {itr : Array Value} {r0 r1 : Str} {rest : List Str} {tm : Tok} {Q : Flow → Shared → Prop} (W : Wd (KK w) mg mb h₀) (hroom : A.depth + 1 < recursionLimit) (hh : A.handled = none)
    (S : LS h₀ L m (some (.ref Dr)) (some (.ref B)) s.heap) (hm : m "mail" = some (.str (mailS (LLL [r0, r1]) (bs.reverse.map LLL)) tm)) (hDr : s.heap.IsList Dr itr) (hir : StrsAre itr.toList (r0 :: r1 :: rest)) (hrl : rest.length ≤ 100)
    (hB : s.heap.IsList B (as.map Value.ref).toArray) (hbs : Blks s.heap as bs)
    (hc : cntB (szs bs) ≤ 24) (hl : bs.length ≤ 13) (hg : ∀ b ∈ bs, ∀ r ∈ b, GoodRow r) (hgb : ∀ r ∈ [r0, r1], GoodRow r)
    (h : ∀ s', Keeps s s' → Q (.ret (.bool true)) s') :
    wpAny (model PP w) A (exec (lst PP 6) (lenv L fa cd)) Q E s := by
  have hsl : sizeLine = 16777216 := sizeLine_eq
  have W₀ : Wd (KK w) mg mb s.heap := W.keeps S.fr.keep
  have hsz : itr.size = rest.length + 2 := by have := hir.len_eq; simpa using this
  have hcl : (Str.ofString "\x0d\n").length = 2 := by decide +kernel
  refine wpAny_Return_some ?_
  refine wpAny_Compare1 ?_
  refine ldl S.fr.ns (by exact hm) ?_
  refine Call_str1 F.slot_str_join F.type_str_join ?_
  refine cs_k fun s₁ t₁ k₁ => ⟨_, _, rfl, ?_⟩
  have S₁ := S.keeps (kp_kept k₁)
  have W₁ := W₀.keeps (kp_kept k₁)
  refine wpAny_ListComp_free (cl := [(Str.ofString "rows", L + 1), (Str.ofString "blocks", L + 2)]) (fun _ => true) (fun v y => ∃ (p : Nat) (t u : Tok), v = .int (p : Nat) t ∧ y = .str ⟨(ra (LLL [r0, r1]) (bs.reverse.map LLL) p).toArray⟩ u) (by rfl) (by decide) (by rfl) (by decide) (by rfl) ?_
  refine range_iter W₁ (by rfl) ?_
  refine wpAny_BinOp ?_
  refine Call_fn W₁ (by rfl) (by rfl) (by rfl) ?_
  refine args_cons ?_
  refine ldBlocks S₁ (args_nil ⟨kp_refl _, ?_⟩)
  refine count_spec W₁ (by omega) hh (hB.at fun o e => kp_kept k₁ _ _ e) (hbs.keeps (kp_kept k₁)) (by omega) fun s₂ t₂ k₂ => ?_
  refine ci_k fun s₃ t₃ k₃ => ?_
  refine add_k fun s₄ t₄ k₄ => ?_
  have k₄' := kp_trans (kp_trans k₂ k₃) k₄
  have en : ((cntB (szs bs) : Nat) : Int) + 1 = ((cntB (szs bs) + 1 : Nat) : Int) := by push_cast; rfl
  rw [en]
  refine ⟨k₄', cntB (szs bs) + 1, t₄, rfl, by omega, fun s₅ I k₅ hI hit => ?_⟩
  have k₄₁ := kp_trans k₁ k₄'
  have k₅' := kp_trans k₄₁ k₅
  have S₄ := S.keeps (kp_kept k₄₁)
  have S₅ := S.keeps (kp_kept k₅')
  have hW := walks_bounded (Walks.range (prog := PP) (w := w) (A := A) hh I 0 1 (cntB (szs bs) + 1))
  have neI : ∀ {x : Addr} {o : Obj}, s.heap.get? x = some o → x ≠ I := fun hx q => by
    have := kp_kept k₄₁ _ _ hx; rw [q, hI] at this; cases this
  refine ⟨I, _, _, _, _, _, rfl, hW, by omega, ?_, ?_, ⟨?_, ?_⟩, ?_⟩
  · show IsRangeIter s₅.heap I (0 + ((0 : Nat) : Int) * 1) (((cntB (szs bs) + 1 : Nat) : Int) - ((0 : Nat) : Int)) 1
    simpa using hit
  · intro b hb
    rw [List.mem_singleton.mp hb]
    exact Heap.lt_size hit
  · intro C i v s₆ m₆ E' _ _ _ _ _ _
    exact wpAny_tests_nil ⟨rfl, kp_refl s₆⟩
  · intro C i v s₆ m₆ E' hC hv _ hn hx hk _
    obtain ⟨hi, t, rfl⟩ := hv
    have ei : (0 : Int) + (i : Int) * 1 = ((i : Nat) : Int) := by omega
    rw [ei] at hx ⊢
    have kept : ∀ x o, s.heap.get? x = some o → s₆.heap.get? x = some o := fun x o e => hk x o (by simpa using neI e) (kp_kept k₅' _ _ e)
    have W₆ : Wd (KK w) mg mb s₆.heap := W₀.keeps kept
    have hcellR : s₆.heap.IsCell (L + 1) (some (.ref Dr)) := S.cell.keeps kept
    have hcellB : s₆.heap.IsCell (L + 2) (some (.ref B)) := S.cell2.keeps kept
    refine Call_fn W₆ (by rfl) (by rfl) (by rfl) ?_
    refine args_cons ?_
    refine ldl hn hx ?_
    refine args_cons ?_
    refine wpAny_Name (wpAny_loadName_cell (c := L + 2) (by rfl) (by rfl) (by rfl) hcellB ?_) (by decide)
    refine args_cons ?_
    refine list_slice ?_
    refine wpAny_Name (wpAny_loadName_cell (c := L + 1) (by rfl) (by rfl) (by rfl) hcellR ?_) (by decide)
    rw [evalPart_none]
    refine wpAny_pure ?_
    rw [evalPart_some]
    refine ci_k fun s₇ t₇ k₇ => ⟨Dr, itr, none, some ((2 : Nat) : Int), rfl, (hDr.at fun o e => kept _ o e).at fun o e => kp_kept k₇ _ _ e, by omega, .none, .int _ _, fun s₈ D₈ k₈ hD₈ _ => ?_⟩
    rw [slicePick_upto'] at hD₈
    have k₈' := kp_trans k₇ k₈
    refine args_nil ⟨k₈', ?_⟩
    have h2 : StrsAre (itr.toList.take 2).toArray.toList [r0, r1] := by
      have hit2 : itr.toList.take 2 = (itr.toList.take 2) := rfl
      cases hq : itr.toList with
      | nil => rw [hq] at hir; cases hir
      | cons v1 l1 =>
        rw [hq] at hir
        cases hir with
        | cons a ta r' =>
          cases r' with
          | cons b tb r'' => exact .cons _ _ (.cons _ _ .nil)
    have kept8 : ∀ x o, s.heap.get? x = some o → s₈.heap.get? x = some o := fun x o e => kp_kept k₈' _ _ (kept x o e)
    refine row_spec (p := i) (brd := [r0, r1]) (W₀.keeps kept8) hroom hh (hB.at fun o e => kept8 _ o e) (hbs.keeps kept8) hD₈ h2 rfl (by omega) (by omega) (by omega) (fun b hb r hr => Nat.le_trans (hg b hb r hr).1 (by omega)) (fun r hr => Nat.le_trans (hgb r hr).1 (by omega)) fun s₉ t₉ k₉ => ?_
    exact ⟨⟨i, t, t₉, rfl, rfl⟩, kp_trans k₈' k₉⟩
  · intro D h' tk ys vs hD hlD _ hlen hP hF hk
    rw [List.filter_eq_self.mpr (fun _ _ => rfl)] at hF
    have hys := place_strs (g := fun p => ⟨(ra (LLL [r0, r1]) (bs.reverse.map LLL) p).toArray⟩) (by
      rintro p t y ⟨p', t', u, e1, e2⟩
      have e3 : p = p' := by
        have : ((p : Nat) : Int) = ((p' : Nat) : Int) := by cases e1; rfl
        omega
      exact ⟨u, by rw [e2, e3]⟩) hF 0 (by
      intro j v hj
      obtain ⟨_, t, e⟩ := hP j v hj
      exact ⟨t, by rw [e]; congr 1; omega⟩)
    rw [hlen] at hys
    have hmap : (List.range (cntB (szs bs) + 1)).map (fun p => (⟨(ra (LLL [r0, r1]) (bs.reverse.map LLL) (0 + p)).toArray⟩ : Str)) = (List.range (cntB (szs bs) + 1)).map (fun p => (⟨(ra (LLL [r0, r1]) (bs.reverse.map LLL) p).toArray⟩ : Str)) := by
      apply List.map_congr_left
      intro p _
      rw [Nat.zero_add]
    rw [hmap] at hys
    have hlens : ∀ y ∈ (List.range (cntB (szs bs) + 1)).map (fun p => (⟨(ra (LLL [r0, r1]) (bs.reverse.map LLL) p).toArray⟩ : Str)), y.length ≤ 16 := by
      intro y hy
      obtain ⟨p, _, rfl⟩ := List.mem_map.mp hy
      show (ra _ _ p).toArray.size ≤ 16
      rw [List.size_toArray]
      have := ra_len (M := 3) (bord := LLL [r0, r1]) (by
        intro r hr
        obtain ⟨y, hy, rfl⟩ := List.mem_map.mp hr
        have := (hgb y hy).1
        simpa [Str.length] using this) (bs.reverse.map LLL) (by
        intro c hc' r hr
        obtain ⟨x, hx, rfl⟩ := List.mem_map.mp hc'
        obtain ⟨y, hy, rfl⟩ := List.mem_map.mp hr
        have := (hg x (List.mem_reverse.mp hx) y hy).1
        simpa [Str.length] using this) p
      rw [List.length_map, List.length_reverse] at this
      omega
    have hsum := sum_le _ hlens
    have hll : ((List.range (cntB (szs bs) + 1)).map (fun p => (⟨(ra (LLL [r0, r1]) (bs.reverse.map LLL) p).toArray⟩ : Str))).length = cntB (szs bs) + 1 := by simp
    have k₆ : Keeps s₄ { s₅ with heap := h', toks := tk } := by
      obtain ⟨h5, t5, rfl, kk5⟩ := k₅
      exact ⟨h', tk, rfl, fun b o e => hk b o (fun q => by
        rw [List.mem_singleton.mp q, hI] at e; cases e) (kk5 b o e)⟩
    refine join_call hlD hys (by rw [hll, hcl]; rw [hll] at hsum; omega) fun s₇ t₇ k₇ => ?_
    refine eq_str ?_
    have e : Txt.join (Str.ofString "\x0d\n") ((List.range (cntB (szs bs) + 1)).map (fun p => (⟨(ra (LLL [r0, r1]) (bs.reverse.map LLL) p).toArray⟩ : Str))) = mailS (LLL [r0, r1]) (bs.reverse.map LLL) := by
      apply Str.ext'
      apply Array.toList_inj.mp
      unfold Txt.join
      rw [StrLaws.glued_eq_join, join_list', crlf_list, List.map_map]
      unfold mailS allRows
      rw [szs_LLL]
      have e2 : cntB (szs bs.reverse) = cntB (szs bs) := by unfold szs; rw [List.map_reverse, cntB_reverse]
      rw [e2]
      rfl
    rw [e, beq_self_eq_true]
    exact h _ (kp_trans (kp_trans k₄₁ k₆) k₇)
end
end
end Mine
-- Q02n
namespace Mine
section
open PySem PySem.W PyProof.Rows

theorem nums_len (ns : List Int) (hn : ns.length ≤ 63) : 8 ≤ (nums2 ns).length ∧ (nums2 ns).length ≤ 12 := by
  unfold nums2
  rw [List.length_map, List.length_append, List.length_take, List.length_drop]
  have : dflt2.length = 8 := rfl
  omega
theorem nums_range (ns : List Int) : ∀ n ∈ nums2 ns, 0 ≤ n ∧ n < 1000000 := by
  intro n hn
  unfold nums2 at hn
  obtain ⟨k, _, rfl⟩ := List.mem_map.mp hn
  exact ⟨Int.fmod_nonneg_of_pos _ (by omega), Int.fmod_lt_of_pos _ (by omega)⟩
theorem good_row {n : Int} (h : 0 ≤ n) : GoodRow (rowOf n) := by
  have q1 : 0 ≤ (n.fdiv 4).fmod 3 := Int.fmod_nonneg_of_pos _ (by omega)
  have q2 : (n.fdiv 4).fmod 3 < 3 := Int.fmod_lt_of_pos _ (by omega)
  have q5 : 0 ≤ n.fdiv 24 := Int.fdiv_nonneg h (by omega)
  refine ⟨?_, ?_⟩
  · show (rowL n).toArray.size ≤ 3
    rw [List.size_toArray]
    unfold rowL
    rw [List.length_append, List.length_replicate]
    have : (if (n.fdiv 12).fmod 2 = 0 then ([] : List Nat) else [(14 + n.fdiv 24).toNat]).length ≤ 1 := by split <;> simp
    omega
  · show clean (rowL n)
    unfold rowL
    intro c hc
    rcases List.mem_append.mp hc with q | q
    · rw [List.eq_of_mem_replicate q]; decide
    · split at q
      · cases q
      · rw [List.mem_singleton.mp q]; omega

section
variable {w : World} {A : Around} {E : Value → Shared → Prop} {s : Shared} {mg mb : Str → Option Value} {h₀ : Heap} {L fa : Addr} {cd : Value} {m : Str → Option Value} {cr cb : Option Value}

set_option maxHeartbeats 1000000 in
theorem law_main {D₀ : Addr} {vs : List Value} {ns : List Int} (W : Wd (KK w) mg mb h₀) (hroom : A.depth + 1 < recursionLimit) (hh : A.handled = none) (S : LS h₀ L m cr cb s.heap) (hm : m "script" = some (.ref D₀)) (hD : s.heap.IsList D₀ vs.toArray) (hi : IntsAre vs ns) (hn : ns.length ≤ 63) :
    wpAny (model PP w) A (execs (lbody PP) (lenv L fa cd)) (fun f s' => f = .ret (.bool true) ∧ (∃ m', Fr h₀ L s'.heap m') ∧ ∃ h' tk, s' = { s with heap := h', toks := tk }) E s := by
  obtain ⟨hl8, hl12⟩ := nums_len ns hn
  have hrng := nums_range ns
  have hgood : ∀ r ∈ (nums2 ns).map rowOf, GoodRow r := by
    intro r hr
    obtain ⟨n, hn', rfl⟩ := List.mem_map.mp hr
    exact good_row (hrng n hn').1
  have hrl : ((nums2 ns).map rowOf).length = (nums2 ns).length := by simp
  refine wpAny_execs_cons (st := lst PP 0) ?_
  refine law_s0 W S hh hm hD hi hn fun D₁ its₁ s₁ S₁ hD₁ hi₁ hs₁ => ?_
  refine wpAny_execs_cons (st := lst PP 1) ?_
  refine law_s1 W S₁ hh rfl hD₁ hi₁ (by omega) hrng fun D₂ its₂ s₂ S₂ hD₂ hi₂ hD₁' hs₂ => ?_
  generalize hrs : (nums2 ns).map rowOf = rs at *
  generalize hnn : nums2 ns = nn at *
  refine wpAny_execs_cons (st := lst PP 2) ?_
  refine law_s2 S₂ fun B a s₃ S₃ hB₃ hb₃ hBf haf hne u₃ => ?_
  have hD₁₃ := list_upd hD₁' u₃ (cell_ne S₂.cell2 hD₁')
  have hD₂₃ := list_upd hD₂ u₃ (cell_ne S₂.cell2 hD₂)
  have h₀none : ∀ {x : Addr}, s₂.heap.get? x = none → h₀.get? x = none := fun {x} hx => by
    cases q : h₀.get? x with
    | none => rfl
    | some o => have := S₂.fr.keep _ _ q; rw [hx] at this; cases this
  obtain ⟨oR, hoR, _⟩ := id hD₂
  have neR : ∀ {x : Addr}, s₂.heap.get? x = none → D₂ ≠ x := fun hx q => by rw [q, hx] at hoR; cases hoR
  refine wpAny_execs_cons (st := lst PP 3) ?_
  refine law_s3 (P := GoodRow) W (by omega) hh S₃ rfl hD₁₃ hi₁ hD₂₃ hi₂ (by omega) (by omega) hgood hB₃ hb₃ (h₀none hBf) (h₀none haf) hne (neR hBf) (neR haf) fun s₄ m₄ as bs S₄ hD₂₄ hB₄ hb₄ hc hbl hg hs₄ => ?_
  obtain ⟨r0, r1, rest, hrest⟩ : ∃ r0 r1 rest, rs = r0 :: r1 :: rest := by
    cases rs with
    | nil => simp at hrl; omega
    | cons r0 l =>
      cases l with
      | nil => simp at hrl; omega
      | cons r1 rest => exact ⟨r0, r1, rest, rfl⟩
  have hrest2 : rest.length ≤ 100 := by
    have := congrArg List.length hrest
    simp only [List.length_cons] at this
    omega
  have g0 : GoodRow r0 := hgood r0 (by rw [hrest]; simp)
  have g1 : GoodRow r1 := hgood r1 (by rw [hrest]; simp)
  have hi₂' : StrsAre its₂.toList (r0 :: r1 :: rest) := by rw [← hrest]; exact hi₂
  refine wpAny_execs_cons (st := lst PP 4) ?_
  refine law_s4 S₄ hD₂₄ hi₂' hrest2 (Nat.le_trans g0.1 (by omega)) (Nat.le_trans g1.1 (by omega)) fun t₅ s₅ S₅ u₅ => ?_
  have blkL : ∀ {s' : Shared}, Upd L s₄ s' → Blks s'.heap as bs := fun u => hb₄.at fun x hx o e => u.kept _ o (by
    obtain ⟨i, ei⟩ := List.getElem?_of_mem hx
    obtain ⟨b, _, p⟩ := hb₄.get ei
    obtain ⟨_, hpl, _⟩ := p.acc
    exact ne_list S₄.fr.ns hpl) e
  have hgb : ∀ r ∈ [r0, r1], GoodRow r := by
    intro r hr
    simp only [List.mem_cons, List.not_mem_nil, or_false] at hr
    rcases hr with rfl | rfl
    · exact g0
    · exact g1
  refine wpAny_execs_cons (st := lst PP 5) ?_
  refine law_s5 (brd := [r0, r1]) W (by omega) hh S₅ rfl (list_upd hB₄ u₅ (ne_list S₄.fr.ns hB₄)) (blkL u₅) hc hbl hg hgb fun m₆ t₆ s₆ S₆ hm₆ u₆ => ?_
  have uu := u₅.trans u₆
  refine wpAny_execs_cons (st := lst PP 6) ?_
  refine law_s6 W hroom hh S₆ hm₆ (list_upd hD₂₄ uu (ne_list S₄.fr.ns hD₂₄)) hi₂' hrest2 (list_upd hB₄ uu (ne_list S₄.fr.ns hB₄)) (blkL uu) hc hbl hg hgb fun s₇ k₇ => ?_
  refine ⟨rfl, ⟨m₆, fr_keeps S₆.fr (kp_kept k₇)⟩, ?_⟩
  obtain ⟨_, _, rfl⟩ := hs₁; obtain ⟨_, _, rfl⟩ := hs₂; obtain ⟨_, _, rfl, _⟩ := u₃; obtain ⟨_, _, rfl⟩ := hs₄; obtain ⟨_, _, rfl, _⟩ := uu; obtain ⟨_, _, rfl, _⟩ := k₇
  exact ⟨_, _, rfl⟩
end
end
end Mine
-- Q02z
open PySem PySem.W PyProof.Rows
set_option maxHeartbeats 8000000 in
theorem PySem.Challenge.cw_pg0010_02_holds : PySem.Challenge.rw_pg0010_02.Holds := by
  refine Mine.hd ?_
  w_on
  k_go0
  rename_i F o1 o2 hc1 hc2 N0 X0
  rename (Mine.hd.heap_39 _).In _ => KX
  rename Top _ _ _ _ _ _ => T
  rename IntsAre _ _ => hI
  rename Heap.IsList _ _ _ => hL
  rename _ = #[] => hg
  rename (¬ _ < _) => hlen
  have W : Mine.Wd (Mine.KK _) _ _ _ := ⟨T.g, T.b, T.nolimit, T.builtins, KX⟩
  have S : Mine.LS _ _ _ _ _ _ := ⟨F, ⟨o2, (N0 _ (.tail _ (.head _))).1, hc2⟩, ⟨o1, (N0 _ (.head _)).1, hc1⟩⟩
  refine wpAny_mono (Mine.law_main W (by show callerA.depth + 1 + 1 < recursionLimit; decide) rfl S rfl (hL.at fun o e => F.keep _ _ e) hI (by omega)) ?_ (fun _ _ h => h)
  rintro f s' ⟨rfl, ⟨m', F'⟩, h', tk, rfl⟩
  exact goodW_bool F' hg (raisesW_false (by wrow_none_raised)) (postW_of rfl rfl (by decide +kernel))
