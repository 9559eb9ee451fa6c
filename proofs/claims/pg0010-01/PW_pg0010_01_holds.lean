import PyProof.Rows.All
import Wide.All
import OpenK.AllK
import Wide.FinOn
import PySem.Challenge.RW_pg0010_01
set_option Elab.async false
set_option maxRecDepth 100000
set_option linter.unusedVariables false
-- SreA
namespace Mine
section
open PySem
open Sre Sre.M

theorem runFor_succ (n : Nat) (m : M) (h : m.outcome = none) : M.runFor (n + 1) m = M.runFor n m.step := by
  rw [M.runFor, h]; rfl
theorem runFor_done (n : Nat) (m : M) (h : m.outcome.isSome = true) : M.runFor n m = m := by
  cases n with
  | zero => rfl
  | succ n => rw [M.runFor, if_pos h]
theorem runFor_add (a b : Nat) (m : M) : M.runFor (a + b) m = M.runFor b (M.runFor a m) := by
  induction a generalizing m with
  | zero => rw [Nat.zero_add]; rfl
  | succ a ih =>
    cases h : m.outcome with
    | some o => rw [runFor_done _ m (by rw [h]; rfl), runFor_done _ m (by rw [h]; rfl), runFor_done _ m (by rw [h]; rfl)]
    | none => rw [show a + 1 + b = (a + b) + 1 by omega, runFor_succ _ _ h, runFor_succ _ _ h, ih]

/-- within k steps the machine ends in m' -/
def Ends (k : Nat) (m m' : M) : Prop := M.runFor k m = m' ∧ m'.outcome.isSome = true
theorem Ends.step {k : Nat} {m m' : M} (h : Ends k m.step m') (ho : m.outcome = none) : Ends (k + 1) m m' :=
  ⟨(runFor_succ k m ho).trans h.1, h.2⟩
theorem Ends.step' {k : Nat} {m m₁ m' : M} (h : Ends k m₁ m') (e : m.step = m₁) (ho : m.outcome = none) : Ends (k + 1) m m' := (e ▸ h : Ends k m.step m').step ho
theorem Ends.more {k : Nat} {m m' : M} (h : Ends k m m') (j : Nat) : Ends (k + j) m m' :=
  ⟨by rw [runFor_add, h.1, runFor_done _ _ h.2], h.2⟩
theorem Ends.le {k j : Nat} {m m' : M} (h : Ends k m m') (hj : k ≤ j) : Ends j m m' := by
  obtain ⟨d, rfl⟩ := Nat.exists_eq_add_of_le hj
  exact h.more d

-- steps
theorem step_exec {m : M} (ho : m.outcome = none) (ha : m.answer = none) (hp : m.pc < m.code.size) : m.step = m.exec := by
  unfold M.step; rw [ho, ha]; simp [hp]

theorem step_literal {m : M} (ho : m.outcome = none) (ha : m.answer = none) (hp : m.pc < m.code.size) (hw : m.code.getD m.pc 0 = 16) :
    m.step = if m.pos ≥ m.lim then { m with seen := m.seen.add 16, answer := some false }
      else if m.text.getD m.pos 0 = m.code.getD (m.pc + 1) 0 then { m with seen := m.seen.add 16, pc := m.pc + 2, pos := m.pos + 1 }
      else { m with seen := m.seen.add 16, answer := some false } := by
  rw [step_exec ho ha hp]
  have h0 : m.word 0 = 16 := hw
  have hop : Sre.ops[16]? = some Op.LITERAL := rfl
  have hw' : m.code.getD (m.pc + 0) 0 = 16 := hw
  unfold M.exec
  simp only [h0, hop]
  by_cases h1 : m.pos ≥ m.lim
  · simp only [h1, if_true]; rfl
  · simp only [h1, if_false]
    have hacc : accepts m.code m.pc (m.text.getD m.pos 0) (m.seen.add 16) = .ok (m.text.getD m.pos 0 == m.code.getD (m.pc + 1) 0, m.seen.add 16) := by
      unfold accepts; simp only [hw, hop]
    have hit : itemWidth m.code m.pc = 2 := by unfold itemWidth; simp only [hw, hop]
    rw [hacc]
    by_cases h2 : m.text.getD m.pos 0 = m.code.getD (m.pc + 1) 0
    · rw [if_pos h2, beq_iff_eq.mpr h2]; simp only [hit]
    · rw [if_neg h2, beq_eq_false_iff_ne.mpr h2]; rfl

theorem step_success {m : M} (ho : m.outcome = none) (ha : m.answer = none) (hp : m.pc < m.code.size) (hw : m.code.getD m.pc 0 = 1)
    (hwt : m.wholeText = false) (hma : m.mustAdvance = false) :
    m.step = { m with seen := m.seen.add 1, handed := m.pos, answer := some true } := by
  rw [step_exec ho ha hp]
  have h0 : m.word 0 = 1 := hw
  have hop : Sre.ops[1]? = some Op.SUCCESS := rfl
  unfold M.exec
  simp only [h0, hop, hwt, hma, Bool.false_and, Bool.or_false, Bool.and_false, Bool.false_eq_true, if_false]
  rfl

theorem step_jump {m : M} (ho : m.outcome = none) (ha : m.answer = none) (hp : m.pc < m.code.size) (hw : m.code.getD m.pc 0 = 15) :
    m.step = { m with seen := m.seen.add 15, pc := m.pc + 1 + m.code.getD (m.pc + 1) 0 } := by
  rw [step_exec ho ha hp]
  have h0 : m.word 0 = 15 := hw
  have hop : Sre.ops[15]? = some Op.JUMP := rfl
  unfold M.exec
  simp only [h0, hop]
  rfl

theorem step_at1 {m : M} (ho : m.outcome = none) (ha : m.answer = none) (hp : m.pc < m.code.size) (hw : m.code.getD m.pc 0 = 6) (hw1 : m.code.getD (m.pc + 1) 0 = 1) :
    m.step = if m.pos = 0 ∨ m.text.getD (m.pos - 1) 0 = 10 then { m with seen := (m.seen.add 6).add 44, pc := m.pc + 2 }
      else { m with seen := (m.seen.add 6).add 44, answer := some false } := by
  rw [step_exec ho ha hp]
  have h0 : m.word 0 = 6 := hw
  have h1 : m.word 1 = 1 := hw1
  have hop : Sre.ops[6]? = some Op.AT := rfl
  unfold M.exec
  simp only [h0, hop]
  have h1' : ∀ sn, M.word { m with seen := sn } 1 = 1 := fun _ => hw1
  simp only [h1']
  have hat : ∀ sn, M.isAt { m with seen := sn } 1 = .ok (m.pos == 0 || m.text.getD (m.pos - 1) 0 == 10) := fun _ => rfl
  simp only [hat]
  by_cases hc : m.pos = 0 ∨ m.text.getD (m.pos - 1) 0 = 10
  · rw [if_pos hc]
    have : (m.pos == 0 || m.text.getD (m.pos - 1) 0 == 10) = true := by simpa using hc
    rw [this]; rfl
  · rw [if_neg hc]
    have : (m.pos == 0 || m.text.getD (m.pos - 1) 0 == 10) = false := by simpa using hc
    rw [this]; rfl

theorem step_branch {m : M} (ho : m.outcome = none) (ha : m.answer = none) (hp : m.pc < m.code.size) (hw : m.code.getD m.pc 0 = 7) (hi : m.inner = none) :
    m.step = ({ m with seen := m.seen.add 7 } : M).alternative (m.pc + 1) { lastmark := m.lastmark, lastindex := m.lastindex, whole := false, marks := #[] } := by
  rw [step_exec ho ha hp]
  have h0 : m.word 0 = 7 := hw
  have hop : Sre.ops[7]? = some Op.BRANCH := rfl
  unfold M.exec
  simp only [h0, hop]
  unfold M.keep
  simp [hi]

theorem step_assertNot {m : M} (ho : m.outcome = none) (ha : m.answer = none) (hp : m.pc < m.code.size) (hw : m.code.getD m.pc 0 = 5) (hi : m.inner = none) (hb : m.code.getD (m.pc + 2) 0 = 0) :
    m.step = ({ m with seen := m.seen.add 5 } : M).attempt
      { wait := .lookNot, pc := m.pc, pos := m.pos, outermost := m.outermost, kept := { lastmark := m.lastmark, lastindex := m.lastindex, whole := false, marks := #[] } } (m.pc + 3) m.pos false := by
  rw [step_exec ho ha hp]
  have h0 : m.word 0 = 5 := hw
  have hop : Sre.ops[5]? = some Op.ASSERT_NOT := rfl
  unfold M.exec
  simp only [h0, hop]
  have h2 : ∀ sn, M.word { m with seen := sn } 2 = 0 := fun _ => hb
  simp only [h2]
  unfold M.keep
  simp [hi]
  rfl

theorem attempt_ok {m : M} {f : Sre.Frame} {t fr : Nat} {b : Bool} (hk : f.kept.marks = #[]) (hwt : m.weight < 1000) :
    m.attempt f t fr b = { m with frames := f :: m.frames, weight := m.weight + 1, pc := t, pos := fr, handed := fr, outermost := b } := by
  unfold M.attempt
  have : ¬ (m.weight + 1 + f.kept.marks.size > 16777216) := by rw [hk]; simp; omega
  rw [if_neg this]
  simp [hk]

theorem alternative_ok {m : M} {alt : Nat} {kept : Sre.Kept} (h : (m.code.getD alt 0 == 0) = false) : m.alternative alt kept = m.attempt { m.frame .nextBranch with pc := alt, kept } (alt + 1) m.pos m.outermost := by
  unfold M.alternative; rw [h]; rfl
theorem resume_start_no {m : M} {f : Sre.Frame} (hf : f.wait = .nextStart) : M.resume m f false = if f.pos < m.lastStart then M.attemptFrom { m with mustAdvance := false } (f.pos + 1) false else m.say false := by
  unfold M.resume; rw [hf]; rfl

/-- what the machine holds when it answers to a frame -/
theorem step_resume {m : M} {f : Sre.Frame} {rest : List Sre.Frame} {b : Bool} (ho : m.outcome = none) (ha : m.answer = some b) (hf : m.frames = f :: rest) (hk : f.kept.marks = #[]) :
    m.step = M.resume { m with answer := none, frames := rest, weight := m.weight - 1, pc := f.pc, pos := f.pos, outermost := f.outermost } f b := by
  unfold M.step; rw [ho, ha, hf]; simp [hk]

theorem step_last {m : M} {b : Bool} (ho : m.outcome = none) (ha : m.answer = some b) (hf : m.frames = []) :
    m.step = { m with outcome := some (if b then .matched else .failed) } := by
  unfold M.step; rw [ho, ha, hf]; simp


/-- a state of the search: what never changes, then what does -/
def St (code text : Array Nat) (lim start : Nat) (b : Bool) (frames : List Sre.Frame) (weight pc pos handed : Nat) (ans : Option Bool) (sn : Seen) : M :=
  { code := code, text := text, lim := lim, start := start, lastStart := lim, pc := pc, pos := pos, handed := handed, outermost := b, marks := #[],
    frames := frames, weight := weight, answer := ans, seen := sn }

section
variable {code text : Array Nat} {lim start : Nat} {b : Bool} {frames : List Sre.Frame} {weight pc pos handed : Nat} {sn : Seen}

theorem st_lit_yes (hp : pc < code.size) (hw : code.getD pc 0 = 16) (hl : pos < lim) (h : text.getD pos 0 = code.getD (pc + 1) 0) :
    (St code text lim start b frames weight pc pos handed none sn).step = St code text lim start b frames weight (pc + 2) (pos + 1) handed none (sn.add 16) :=
  (step_literal (m := St code text lim start b frames weight pc pos handed none sn) rfl rfl hp hw).trans ((if_neg (Nat.not_le.mpr hl)).trans (if_pos h))
theorem st_lit_no (hp : pc < code.size) (hw : code.getD pc 0 = 16) (h : lim ≤ pos ∨ text.getD pos 0 ≠ code.getD (pc + 1) 0) :
    (St code text lim start b frames weight pc pos handed none sn).step = St code text lim start b frames weight pc pos handed (some false) (sn.add 16) := by
  refine (step_literal (m := St code text lim start b frames weight pc pos handed none sn) rfl rfl hp hw).trans ?_
  by_cases hl : lim ≤ pos
  · exact if_pos hl
  · exact (if_neg hl).trans (if_neg (h.resolve_left hl))
theorem st_success (hp : pc < code.size) (hw : code.getD pc 0 = 1) :
    (St code text lim start b frames weight pc pos handed none sn).step = St code text lim start b frames weight pc pos pos (some true) (sn.add 1) :=
  step_success (m := St code text lim start b frames weight pc pos handed none sn) rfl rfl hp hw rfl rfl
theorem st_jump (hp : pc < code.size) (hw : code.getD pc 0 = 15) :
    (St code text lim start b frames weight pc pos handed none sn).step = St code text lim start b frames weight (pc + 1 + code.getD (pc + 1) 0) pos handed none (sn.add 15) :=
  step_jump (m := St code text lim start b frames weight pc pos handed none sn) rfl rfl hp hw
theorem st_at_yes (hp : pc < code.size) (hw : code.getD pc 0 = 6) (hw1 : code.getD (pc + 1) 0 = 1) (h : pos = 0 ∨ text.getD (pos - 1) 0 = 10) :
    (St code text lim start b frames weight pc pos handed none sn).step = St code text lim start b frames weight (pc + 2) pos handed none ((sn.add 6).add 44) :=
  (step_at1 (m := St code text lim start b frames weight pc pos handed none sn) rfl rfl hp hw hw1).trans (if_pos h)
theorem st_at_no (hp : pc < code.size) (hw : code.getD pc 0 = 6) (hw1 : code.getD (pc + 1) 0 = 1) (h : ¬ (pos = 0 ∨ text.getD (pos - 1) 0 = 10)) :
    (St code text lim start b frames weight pc pos handed none sn).step = St code text lim start b frames weight pc pos handed (some false) ((sn.add 6).add 44) :=
  (step_at1 (m := St code text lim start b frames weight pc pos handed none sn) rfl rfl hp hw hw1).trans (if_neg h)
theorem st_branch (hp : pc < code.size) (hw : code.getD pc 0 = 7) (hn : (code.getD (pc + 1) 0 == 0) = false) (hwt : weight < 1000) :
    (St code text lim start b frames weight pc pos handed none sn).step =
      St code text lim start b ({ wait := .nextBranch, pc := pc + 1, pos := pos, outermost := b } :: frames) (weight + 1) (pc + 2) pos pos none (sn.add 7) := by
  refine (step_branch (m := St code text lim start b frames weight pc pos handed none sn) rfl rfl hp hw rfl).trans ?_
  unfold M.alternative
  have : ((({ St code text lim start b frames weight pc pos handed none sn with seen := (St code text lim start b frames weight pc pos handed none sn).seen.add 7 } : M).code.getD ((St code text lim start b frames weight pc pos handed none sn).pc + 1) 0) == 0) = false := hn
  rw [this, if_neg Bool.false_ne_true, attempt_ok rfl hwt]
  rfl
theorem st_assertNot (hp : pc < code.size) (hw : code.getD pc 0 = 5) (hb : code.getD (pc + 2) 0 = 0) (hwt : weight < 1000) :
    (St code text lim start b frames weight pc pos handed none sn).step =
      St code text lim start false ({ wait := .lookNot, pc := pc, pos := pos, outermost := b } :: frames) (weight + 1) (pc + 3) pos pos none (sn.add 5) := by
  refine (step_assertNot (m := St code text lim start b frames weight pc pos handed none sn) rfl rfl hp hw rfl hb).trans ?_
  rw [attempt_ok rfl hwt]
  rfl
-- answers
theorem st_yes_branch {f : Sre.Frame} (hf : f.wait = .nextBranch) (hk : f.kept.marks = #[]) :
    (St code text lim start b (f :: frames) (weight + 1) pc pos handed (some true) sn).step = St code text lim start f.outermost frames weight f.pc f.pos handed (some true) sn := by
  refine (step_resume (m := St code text lim start b (f :: frames) (weight + 1) pc pos handed (some true) sn) rfl rfl rfl hk).trans ?_
  unfold M.resume; rw [hf]; rfl
theorem st_no_branch {fpc fpos : Nat} {fo : Bool} (hn : (code.getD (fpc + code.getD fpc 0) 0 == 0) = false) (hwt : weight < 1000) :
    (St code text lim start b ({ wait := .nextBranch, pc := fpc, pos := fpos, outermost := fo } :: frames) (weight + 1) pc pos handed (some false) sn).step =
      St code text lim start fo ({ wait := .nextBranch, pc := fpc + code.getD fpc 0, pos := fpos, outermost := fo } :: frames) (weight + 1) (fpc + code.getD fpc 0 + 1) fpos fpos none sn := by
  refine (step_resume (m := St code text lim start b ({ wait := .nextBranch, pc := fpc, pos := fpos, outermost := fo } :: frames) (weight + 1) pc pos handed (some false) sn) rfl rfl rfl rfl).trans ?_
  refine Eq.trans (b := M.alternative _ (fpc + code.getD fpc 0) _) rfl ?_
  refine (alternative_ok (by exact hn)).trans ?_
  exact (attempt_ok rfl (by exact hwt)).trans rfl
theorem st_no_lookNot {fpc fpos : Nat} {fo : Bool} :
    (St code text lim start b ({ wait := .lookNot, pc := fpc, pos := fpos, outermost := fo } :: frames) (weight + 1) pc pos handed (some false) sn).step =
      St code text lim start fo frames weight (fpc + 1 + code.getD (fpc + 1) 0) fpos handed none sn := by
  refine (step_resume (m := St code text lim start b ({ wait := .lookNot, pc := fpc, pos := fpos, outermost := fo } :: frames) (weight + 1) pc pos handed (some false) sn) rfl rfl rfl rfl).trans ?_
  rfl
theorem st_yes_start {f : Sre.Frame} (hf : f.wait = .nextStart) (hk : f.kept.marks = #[]) :
    (St code text lim start b (f :: frames) (weight + 1) pc pos handed (some true) sn).step = St code text lim start f.outermost frames weight f.pc f.pos handed (some true) sn := by
  refine (step_resume (m := St code text lim start b (f :: frames) (weight + 1) pc pos handed (some true) sn) rfl rfl rfl hk).trans ?_
  unfold M.resume; rw [hf]; rfl
theorem st_ends_yes : ∃ m', Ends 1 (St code text lim start b [] weight pc pos handed (some true) sn) m' ∧ m'.outcome = some .matched ∧ m'.start = start ∧ m'.handed = handed :=
  ⟨_, (show Ends 0 _ _ from ⟨rfl, rfl⟩).step' (step_last (m := St code text lim start b [] weight pc pos handed (some true) sn) rfl rfl rfl) rfl, rfl, rfl, rfl⟩
theorem st_ends_no : ∃ m', Ends 1 (St code text lim start b [] weight pc pos handed (some false) sn) m' ∧ m'.outcome = some .failed :=
  ⟨_, (show Ends 0 _ _ from ⟨rfl, rfl⟩).step' (step_last (m := St code text lim start b [] weight pc pos handed (some false) sn) rfl rfl rfl) rfl, rfl⟩
end

-- the first pattern: (?m)^\.
def code1 : Array Nat := #[14, 4, 0, 1, 1, 6, 1, 16, 46, 1]

def R1 (text : Array Nat) (lim s : Nat) (b : Bool) (sn : Seen) : M :=
  St code1 text lim s b [{ wait := .nextStart, pc := 5, pos := s, outermost := b }] 1 5 s s none sn

def at1 (text : Array Nat) (s : Nat) : Bool := (s == 0 || text.getD (s - 1) 0 == 10) && text.getD s 0 == 46

/-- the first place from s on (k places looked at) -/
def find1 (text : Array Nat) : Nat → Nat → Option Nat
  | 0, _ => none
  | k + 1, s => if at1 text s then some s else find1 text k (s + 1)

theorem r1_fail {text : Array Nat} {lim s : Nat} {b : Bool} {sn : Seen} (h : at1 text s = false ∨ lim ≤ s) :
    ∃ sn' k pc, k ≤ 2 ∧ ∀ m' j, Ends j (St code1 text lim s b [{ wait := .nextStart, pc := 5, pos := s, outermost := b }] 1 pc s s (some false) sn') m' → Ends (j + k) (R1 text lim s b sn) m' := by
  by_cases hc : s = 0 ∨ text.getD (s - 1) 0 = 10
  · have hn : lim ≤ s ∨ text.getD s 0 ≠ code1.getD (7 + 1) 0 := by
      rcases h with h | h
      · refine .inr fun q => ?_
        have : at1 text s = true := by
          unfold at1
          have q' : text.getD s 0 = 46 := q
          rw [q']; simpa using hc
        rw [this] at h; cases h
      · exact .inl h
    exact ⟨_, 2, _, Nat.le_refl _, fun m' j hj => (hj.step' (st_lit_no (show 7 < 10 by decide) rfl hn) rfl).step' (st_at_yes (show 5 < 10 by decide) rfl rfl hc) rfl⟩
  · exact ⟨_, 1, _, by decide, fun m' j hj => hj.step' (st_at_no (show 5 < 10 by decide) rfl rfl hc) rfl⟩

theorem r1_match {text : Array Nat} {lim s : Nat} {b : Bool} {sn : Seen} (h : at1 text s = true) (hs : s < lim) :
    ∃ m', Ends 5 (R1 text lim s b sn) m' ∧ m'.outcome = some .matched ∧ m'.start = s ∧ m'.handed = s + 1 := by
  unfold at1 at h
  simp only [Bool.and_eq_true, Bool.or_eq_true, beq_iff_eq] at h
  obtain ⟨m', hm, h1, h2, h3⟩ := st_ends_yes (code := code1) (text := text) (lim := lim) (start := s) (b := b) (weight := 0) (pc := 5) (pos := s) (handed := s + 1) (sn := (((sn.add 6).add 44).add 16).add 1)
  exact ⟨m', (((hm.step' (st_yes_start (f := { wait := .nextStart, pc := 5, pos := s, outermost := b }) rfl rfl) rfl).step' (st_success (show 9 < 10 by decide) rfl) rfl).step' (st_lit_yes (show 7 < 10 by decide) rfl hs h.2) rfl).step'
    (st_at_yes (show 5 < 10 by decide) rfl rfl h.1) rfl, h1, h2, h3⟩

theorem r1_next {text : Array Nat} {lim s : Nat} {b : Bool} {pc : Nat} {sn : Seen} (hs : s < lim) :
    (St code1 text lim s b [{ wait := .nextStart, pc := 5, pos := s, outermost := b }] 1 pc s s (some false) sn).step = R1 text lim (s + 1) false sn := by
  refine (step_resume (m := St code1 text lim s b [{ wait := .nextStart, pc := 5, pos := s, outermost := b }] 1 pc s s (some false) sn) rfl rfl rfl rfl).trans ?_
  exact (resume_start_no rfl).trans ((if_pos (by exact hs)).trans rfl)
theorem r1_stop {text : Array Nat} {lim s : Nat} {b : Bool} {pc : Nat} {sn : Seen} (hs : lim ≤ s) :
    (St code1 text lim s b [{ wait := .nextStart, pc := 5, pos := s, outermost := b }] 1 pc s s (some false) sn).step = St code1 text lim s b [] 0 5 s s (some false) sn := by
  refine (step_resume (m := St code1 text lim s b [{ wait := .nextStart, pc := 5, pos := s, outermost := b }] 1 pc s s (some false) sn) rfl rfl rfl rfl).trans ?_
  exact (resume_start_no rfl).trans ((if_neg (Nat.not_lt.mpr (by exact hs))).trans rfl)

theorem r1_run {text : Array Nat} {lim : Nat} : ∀ (k s : Nat) (b : Bool) (sn : Seen), lim = s + k →
    ∃ m', Ends (3 * k + 5) (R1 text lim s b sn) m' ∧ (match find1 text k s with
      | some p => m'.outcome = some .matched ∧ m'.start = p ∧ m'.handed = p + 1
      | none => m'.outcome = some .failed)
  | 0, s, b, sn, hl => by
    obtain ⟨sn', k, pc, hk, h⟩ := r1_fail (text := text) (lim := lim) (s := s) (b := b) (sn := sn) (.inr (by omega))
    obtain ⟨m', hm, ho⟩ := st_ends_no (code := code1) (text := text) (lim := lim) (start := s) (b := b) (weight := 0) (pc := 5) (pos := s) (handed := s) (sn := sn')
    exact ⟨m', (h m' _ (hm.step' (r1_stop (by omega)) rfl)).le (by omega), ho⟩
  | k + 1, s, b, sn, hl => by
    cases ha : at1 text s with
    | true =>
      obtain ⟨m', hm, h1, h2, h3⟩ := r1_match (lim := lim) (b := b) (sn := sn) ha (by omega)
      refine ⟨m', hm.le (by omega), ?_⟩
      rw [find1, ha]; exact ⟨h1, h2, h3⟩
    | false =>
      obtain ⟨sn', j, pc, hj, h⟩ := r1_fail (text := text) (lim := lim) (s := s) (b := b) (sn := sn) (.inl ha)
      obtain ⟨m', hm, ho⟩ := r1_run (text := text) (lim := lim) k (s + 1) false sn' (by omega)
      refine ⟨m', (h m' _ (hm.step' (r1_next (by omega)) rfl)).le (by omega), ?_⟩
      rw [find1, ha]; exact ho

theorem search1 {text : Array Nat} (s : Nat) (hs : s ≤ text.size) :
    ∃ m', Ends (3 * text.size + 5) (Sre.forSearch code1 text 0 s text.size false) m' ∧ (match find1 text (text.size - s) s with
      | some p => m'.outcome = some .matched ∧ m'.start = p ∧ m'.handed = p + 1
      | none => m'.outcome = some .failed) := by
  by_cases h : s = text.size
  · subst h
    have e : Sre.forSearch code1 text 0 text.size text.size false = { St code1 text text.size text.size true [] 0 5 text.size text.size (some false) (({} : Seen).add 14) with lastStart := 0 } := by
      unfold Sre.forSearch
      refine if_pos ?_
      show (decide (text.size > text.size) || decide (text.size - text.size < 1)) = true
      simp
    rw [e]
    rw [Nat.sub_self]
    refine ⟨{ St code1 text text.size text.size true [] 0 5 text.size text.size (some false) (({} : Seen).add 14) with lastStart := 0, outcome := some .failed }, (?_ : Ends 1 _ _).le (by omega), rfl⟩
    exact (show Ends 0 _ _ from ⟨rfl, rfl⟩).step' (step_last (b := false) rfl rfl rfl) rfl
  · have e : Sre.forSearch code1 text 0 s text.size false = R1 text text.size s true (({} : Seen).add 14) := by
      unfold Sre.forSearch
      refine (if_neg ?_).trans ?_
      · show ¬ ((decide (s > text.size) || decide (text.size - s < 1)) = true)
        simp; omega
      · rfl
    rw [e]
    obtain ⟨m', hm, ho⟩ := r1_run (text := text) (lim := text.size) (text.size - s) s true (({} : Seen).add 14) (by omega)
    exact ⟨m', hm.le (by omega), ho⟩

-- the second pattern: (?:\r\n|\n|\r(?!\n))
def code2 : Array Nat := #[14, 9, 4, 1, 2, 16, 10, 16, 13, 0, 7, 7, 16, 13, 16, 10, 15, 18, 5, 16, 10, 15, 13, 11, 16, 13, 5, 5, 0, 16, 10, 1, 15, 2, 0, 1]

def R2 (text : Array Nat) (lim s : Nat) (b : Bool) (sn : Seen) : M :=
  St code2 text lim s b [{ wait := .nextStart, pc := 10, pos := s, outermost := b }] 1 10 s s none sn

def at2 (text : Array Nat) (s : Nat) : Bool := text.getD s 0 == 10 || text.getD s 0 == 13
def find2 (text : Array Nat) : Nat → Nat → Option Nat
  | 0, _ => none
  | k + 1, s => if at2 text s then some s else find2 text k (s + 1)
def end2 (text : Array Nat) (p : Nat) : Nat := if text.getD p 0 = 13 ∧ text.getD (p + 1) 0 = 10 then p + 2 else p + 1

theorem inSet2 (c : Nat) (sn : Seen) : ∃ sn', Sre.inSet code2 c 36 5 true sn = .ok (c == 10 || c == 13, sn') := by
  have e1 : Sre.inSet code2 c 36 5 true sn = if (c == 10) = true then .ok (true, sn.add 16) else Sre.inSet code2 c 35 7 true (sn.add 16) := rfl
  have e2 : Sre.inSet code2 c 35 7 true (sn.add 16) = if (c == 13) = true then .ok (true, (sn.add 16).add 16) else Sre.inSet code2 c 34 9 true ((sn.add 16).add 16) := rfl
  have e3 : Sre.inSet code2 c 34 9 true ((sn.add 16).add 16) = .ok (false, ((sn.add 16).add 16).add 0) := rfl
  rw [e1, e2, e3]
  cases h1 : c == 10 with
  | true => exact ⟨_, rfl⟩
  | false =>
    cases h2 : c == 13 with
    | true => exact ⟨_, rfl⟩
    | false => exact ⟨_, rfl⟩

theorem admitted2 {m : M} {text : Array Nat} (hc : m.code = code2) (ht : m.text = text) : ∀ (k s : Nat) (sn : Seen), m.lim = s + k → ∃ sn', M.admitted m (k + 1) s sn = .ok (find2 text k s, sn')
  | 0, s, sn, hl => ⟨sn, by unfold M.admitted; rw [if_pos (by omega)]; rfl⟩
  | k + 1, s, sn, hl => by
    obtain ⟨sn', h⟩ := inSet2 (text.getD s 0) sn
    unfold M.admitted
    rw [if_neg (by omega), hc, ht, show code2.size = 36 from rfl, h]
    cases ha : (text.getD s 0 == 10 || text.getD s 0 == 13) with
    | true => exact ⟨sn', by rw [find2, at2, ha]; rfl⟩
    | false =>
      obtain ⟨sn'', h''⟩ := admitted2 hc ht k (s + 1) sn' (by omega)
      refine ⟨sn'', ?_⟩
      show M.admitted m (k + 1) (s + 1) sn' = _
      rw [h'', find2, at2, ha]; rfl

theorem r2_match {text : Array Nat} {lim s : Nat} {b : Bool} {sn : Seen} (h : at2 text s = true) (hs : s < lim) (hlim : lim = text.size) :
    ∃ m', Ends 16 (R2 text lim s b sn) m' ∧ m'.outcome = some .matched ∧ m'.start = s ∧ m'.handed = end2 text s := by
  unfold at2 at h
  simp only [Bool.or_eq_true, beq_iff_eq] at h
  by_cases h10 : text.getD s 0 = 10
  · obtain ⟨m', hm, h1, h2, h3⟩ := st_ends_yes (code := code2) (text := text) (lim := lim) (start := s) (b := b) (weight := 0) (pc := 10) (pos := s) (handed := s + 1) (sn := (((((sn.add 7).add 16).add 16).add 15).add 1))
    refine ⟨m', ((?_ : Ends 9 (R2 text lim s b sn) m')).le (by decide), h1, h2, h3.trans ?_⟩
    · exact (((((((hm.step' (st_yes_start (f := { wait := .nextStart, pc := 10, pos := s, outermost := b }) rfl rfl) rfl).step'
        (st_yes_branch (f := { wait := .nextBranch, pc := 18, pos := s, outermost := b }) rfl rfl) rfl).step'
        (st_success (code := code2) (pc := 35) (show 35 < 36 by decide) rfl) rfl).step' (st_jump (code := code2) (pc := 21) (show 21 < 36 by decide) rfl) rfl).step' (st_lit_yes (code := code2) (pc := 19) (show 19 < 36 by decide) rfl hs h10) rfl).step'
        (st_no_branch (fpc := 11) rfl (by decide)) rfl).step' (st_lit_no (code := code2) (pc := 12) (show 12 < 36 by decide) rfl (.inr (by rw [h10]; decide))) rfl).step' (st_branch (code := code2) (pc := 10) (show 10 < 36 by decide) rfl rfl (by decide)) rfl
    · unfold end2; rw [if_neg (by rw [h10]; omega)]
  · have h13 : text.getD s 0 = 13 := h.resolve_left h10
    by_cases hn : text.getD (s + 1) 0 = 10
    · have hs1 : s + 1 < lim := by
        rw [hlim]
        apply Decidable.byContradiction
        intro hge
        rw [Array.getD_eq_getD_getElem?, Array.getElem?_eq_none (by omega)] at hn
        cases hn
      obtain ⟨m', hm, h1, h2, h3⟩ := st_ends_yes (code := code2) (text := text) (lim := lim) (start := s) (b := b) (weight := 0) (pc := 10) (pos := s) (handed := s + 1 + 1) (sn := (((((sn.add 7).add 16).add 16).add 15).add 1))
      refine ⟨m', ((?_ : Ends 8 (R2 text lim s b sn) m')).le (by decide), h1, h2, h3.trans ?_⟩
      · exact ((((((hm.step' (st_yes_start (f := { wait := .nextStart, pc := 10, pos := s, outermost := b }) rfl rfl) rfl).step'
          (st_yes_branch (f := { wait := .nextBranch, pc := 11, pos := s, outermost := b }) rfl rfl) rfl).step'
          (st_success (code := code2) (pc := 35) (show 35 < 36 by decide) rfl) rfl).step' (st_jump (code := code2) (pc := 16) (show 16 < 36 by decide) rfl) rfl).step' (st_lit_yes (code := code2) (pc := 14) (show 14 < 36 by decide) rfl hs1 hn) rfl).step'
          (st_lit_yes (code := code2) (pc := 12) (show 12 < 36 by decide) rfl hs h13) rfl).step' (st_branch (code := code2) (pc := 10) (show 10 < 36 by decide) rfl rfl (by decide)) rfl
      · unfold end2; rw [if_pos ⟨h13, hn⟩]
    · obtain ⟨m', hm, h1, h2, h3⟩ := st_ends_yes (code := code2) (text := text) (lim := lim) (start := s) (b := b) (weight := 0) (pc := 10) (pos := s) (handed := s + 1)
        (sn := ((((((((((sn.add 7).add 16).add 16).add 16).add 16)).add 5).add 16).add 15).add 1))
      refine ⟨m', ((?_ : Ends 15 (R2 text lim s b sn) m')).le (by decide), h1, h2, h3.trans ?_⟩
      · exact (((((((((((((hm.step' (st_yes_start (f := { wait := .nextStart, pc := 10, pos := s, outermost := b }) rfl rfl) rfl).step'
          (st_yes_branch (f := { wait := .nextBranch, pc := 23, pos := s, outermost := b }) rfl rfl) rfl).step'
          (st_success (code := code2) (pc := 35) (show 35 < 36 by decide) rfl) rfl).step' (st_jump (code := code2) (pc := 32) (show 32 < 36 by decide) rfl) rfl).step' (st_no_lookNot (fpc := 26)) rfl).step'
          (st_lit_no (code := code2) (pc := 29) (show 29 < 36 by decide) rfl (.inr hn)) rfl).step' (st_assertNot (code := code2) (pc := 26) (show 26 < 36 by decide) rfl rfl (by decide)) rfl).step'
          (st_lit_yes (code := code2) (pc := 24) (show 24 < 36 by decide) rfl hs h13) rfl).step' (st_no_branch (fpc := 18) rfl (by decide)) rfl).step'
          (st_lit_no (code := code2) (pc := 19) (show 19 < 36 by decide) rfl (.inr h10)) rfl).step' (st_no_branch (fpc := 11) rfl (by decide)) rfl).step'
          (st_lit_no (code := code2) (pc := 14) (show 14 < 36 by decide) rfl (.inr hn)) rfl).step' (st_lit_yes (code := code2) (pc := 12) (show 12 < 36 by decide) rfl hs h13) rfl).step'
          (st_branch (code := code2) (pc := 10) (show 10 < 36 by decide) rfl rfl (by decide)) rfl
      · unfold end2; rw [if_neg (fun q => hn q.2)]

theorem find2_some {text : Array Nat} : ∀ {k s p : Nat}, find2 text k s = some p → at2 text p = true ∧ s ≤ p ∧ p < s + k
  | 0, _, _, h => by cases h
  | k + 1, s, p, h => by
    rw [find2] at h
    split at h
    · rename_i ha; cases h; exact ⟨ha, Nat.le_refl _, by omega⟩
    · obtain ⟨a, b, c⟩ := find2_some h; exact ⟨a, by omega, by omega⟩
theorem find1_some {text : Array Nat} : ∀ {k s p : Nat}, find1 text k s = some p → at1 text p = true ∧ s ≤ p ∧ p < s + k
  | 0, _, _, h => by cases h
  | k + 1, s, p, h => by
    rw [find1] at h
    split at h
    · rename_i ha; cases h; exact ⟨ha, Nat.le_refl _, by omega⟩
    · obtain ⟨a, b, c⟩ := find1_some h; exact ⟨a, by omega, by omega⟩

/-- the machine ahead of the second pattern's search -/
def M2 (text : Array Nat) (s ls : Nat) : M :=
  { code := code2, text := text, lim := text.size, start := s, lastStart := ls, pc := 10, pos := s, handed := s, marks := #[], seen := ({} : Seen).add 14 }

theorem search2 {text : Array Nat} (s : Nat) (hs : s ≤ text.size) :
    ∃ m', Ends 16 (Sre.forSearch code2 text 0 s text.size false) m' ∧ (match find2 text (text.size - s) s with
      | some p => m'.outcome = some .matched ∧ m'.start = p ∧ m'.handed = end2 text p
      | none => m'.outcome = some .failed) := by
  by_cases h : s = text.size
  · subst h
    have e : Sre.forSearch code2 text 0 text.size text.size false = (M2 text text.size 0).say false := by
      unfold Sre.forSearch
      refine if_pos ?_
      show (decide (text.size > text.size) || decide (text.size - text.size < 1)) = true
      simp
    rw [e, Nat.sub_self]
    refine ⟨{ (M2 text text.size 0).say false with outcome := some .failed }, (?_ : Ends 1 _ _).le (by omega), rfl⟩
    exact (show Ends 0 _ _ from ⟨rfl, rfl⟩).step' (step_last (b := false) rfl rfl rfl) rfl
  · have e : Sre.forSearch code2 text 0 s text.size false = (M2 text s text.size).attemptFrom s true := by
      unfold Sre.forSearch
      refine (if_neg ?_).trans ?_
      · show ¬ ((decide (s > text.size) || decide (text.size - s < 1)) = true)
        simp; omega
      · rfl
    rw [e]
    obtain ⟨sn', ha⟩ := admitted2 (m := M2 text s text.size) (text := text) rfl rfl (text.size - s) s (M2 text s text.size).seen (show text.size = s + (text.size - s) by omega)
    have e2 : (M2 text s text.size).attemptFrom s true = match (Except.ok (find2 text (text.size - s) s, sn') : Except String (Option Nat × Seen)) with
      | .ok (some s', seen) => M.attemptAt { M2 text s text.size with mustAdvance := false, seen } s' true
      | .ok (none, seen) => ({ M2 text s text.size with seen } : M).say false
      | .error why => (M2 text s text.size).stick why := by
      rw [← ha, show text.size - s + 1 = (M2 text s text.size).lim + 1 - s from by show _ = text.size + 1 - s; omega]
      rfl
    rw [e2]
    cases hf : find2 text (text.size - s) s with
    | none =>
      refine ⟨{ ({ M2 text s text.size with seen := sn' } : M).say false with outcome := some .failed }, (?_ : Ends 1 _ _).le (by omega), rfl⟩
      exact (show Ends 0 _ _ from ⟨rfl, rfl⟩).step' (step_last (b := false) rfl rfl rfl) rfl
    | some p =>
      obtain ⟨h1, h2, h3⟩ := find2_some hf
      exact r2_match (text := text) (lim := text.size) (s := p) (b := true) (sn := sn') h1 (by omega) rfl
end
end Mine
-- SubF
namespace Mine
section
open PySem
theorem slot_sub : Slot "re.Pattern" "sub" "re.Pattern.sub" :=
  .of (owner := "re.Pattern") (n := "sub") (by rw [typeLookup_type, builtinLookup_eq_fast]; kernel_rfl) (by decide +kernel) (by decide +kernel) (by decide +kernel)
    (by first | exact .inl (by decide +kernel) | exact .inr (by decide +kernel)) (by rw [isSubtype_type]; kernel_rfl)
theorem type_sub : typeOf (.builtin "re.Pattern.sub") = pure (.type "method_descriptor") := by show builtinType _ = _; rw [builtinType_eq_fast]; kernel_rfl
theorem entry_sub : entryFor table "re.Pattern.sub" = some Builtin.«re.Pattern.sub» := entryFor_of_tree (by kernel_rfl)
theorem entry_loop : entryFor table "re.Pattern.sub.loop" = some Builtin.«re.Pattern.sub.loop» := entryFor_of_tree (by kernel_rfl)
theorem plainAttrs_pattern : PlainAttrs "re.Pattern" :=
  ⟨⟨"object.__getattribute__", by rw [typeLookup_type, builtinLookup_eq_fast]; kernel_rfl, by decide +kernel⟩, by rw [typeLookup_type, builtinLookup_eq_fast]; kernel_rfl⟩
theorem args_sub (a b c : Value) : argsOk "re.Pattern.sub" ⟨[a, b, c], []⟩ := by
  unfold argsOk
  kernel_rfl
end
end Mine
-- SubB
namespace Mine
section
open PySem PyProof.Rows
open Builtin Builtin.Re

section
variable {M : Model} {A : Around} {E : Value → Shared → Prop} {s : Shared}

theorem reDrive_wp {Q : Sre.M → Shared → Prop} : ∀ (turns k : Nat) (m m' : Sre.M), Ends k m m' → k < 4 * turns → Q m' s → wpAny M A (reDrive turns m) Q E s
  | 0, _, _, _, _, hk, _ => by omega
  | t + 1, k, m, m', he, hk, hq => by
    unfold reDrive
    cases hs : (m.runFor reTurnSteps).outcome.isSome with
    | true =>
      have e : m.runFor reTurnSteps = m' := by
        have h1 : m.runFor (k + 4) = m' := by rw [runFor_add, he.1, runFor_done _ _ he.2]
        rw [Nat.add_comm, runFor_add] at h1
        rw [← h1]
        exact (runFor_done _ _ hs).symm
      simp only [hs, if_true]
      rw [e]; exact wpAny_pure hq
    | false =>
      simp only [hs, Bool.false_eq_true, if_false]
      refine wpAny_bind (wpAny_rule ?_)
      have hk4 : 4 ≤ k := by
        apply Decidable.byContradiction
        intro h
        have h1 : m.runFor 4 = m' := by
          rw [show 4 = k + (4 - k) by omega, runFor_add, he.1, runFor_done _ _ he.2]
        have h2 : (m.runFor 4).outcome.isSome = true := by rw [h1]; exact he.2
        have h3 : (m.runFor 4).outcome.isSome = false := hs
        rw [h2] at h3; cases h3
      refine reDrive_wp t (k - 4) _ m' ⟨?_, he.2⟩ (by omega) hq
      have h1 := he.1
      rw [show k = 4 + (k - 4) by omega, runFor_add] at h1
      exact h1

theorem rules_wp {Q : Unit → Shared → Prop} (m : Sre.M) (l : List Nat) (h : Q () s) :
    wpAny M A (forIn l PUnit.unit fun i _ => do if m.seen.has i = true then (do rule (Sre.names.getD i ""); pure (ForInStep.yield PUnit.unit)) else pure (ForInStep.yield PUnit.unit)) Q E s := by
  induction l with
  | nil => exact wpAny_pure h
  | cons i l ih =>
    rw [List.forIn_cons]
    refine wpAny_bind ?_
    cases m.seen.has i with
    | true => exact wpAny_bind (wpAny_rule (wpAny_pure ih))
    | false => exact wpAny_pure ih

theorem reRunToEnd_wp {Q : Option Sre.M → Shared → Prop} {k : Nat} {m m' : Sre.M} (he : Ends k m m') (hk : k < 2 ^ 26)
    (h : (m'.outcome = some .matched → Q (some m') s) ∧ (m'.outcome = some .failed → Q none s)) (ho : m'.outcome = some .matched ∨ m'.outcome = some .failed) : wpAny M A (reRunToEnd m) Q E s := by
  unfold reRunToEnd
  refine wpAny_bind (reDrive_wp (2 ^ 64) k m m' he (by omega) ?_)
  refine wpAny_bind (wpAny_mono (Q := fun _ s' => s' = s) (rules_wp m' _ rfl) (fun _ s' hs => ?_) fun _ _ x => x)
  subst hs
  rcases ho with ho | ho
  · rw [ho]; exact wpAny_pure (h.1 ho)
  · rw [ho]; exact wpAny_pure (h.2 ho)
end

/-- a compiled pattern of no groups, over texts, with this code -/
structure PatAt (h : Heap) (pat ct : Addr) (code : Array Nat) : Prop where
  typ : ∃ op fs, h.get? pat = some op ∧ op.cls = .type "re.Pattern" ∧ op.dict = none ∧ op.data = .fields fs ∧ fs.getD 5 .none = .ref ct ∧ (∃ t, fs.getD 2 .none = .int 0 t) ∧ ∃ t, fs.getD 6 .none = .int 0 t
  words : ∃ oc cv n, h.get? ct = some oc ∧ oc.data = .seq cv n ∧ ((cv.map reRawOf).map (·.toNat)) = code
theorem PatAt.keeps {h h' : Heap} {pat ct : Addr} {code : Array Nat} (P : PatAt h pat ct code) (k1 : ∀ o, h.get? pat = some o → h'.get? pat = some o) (k2 : ∀ o, h.get? ct = some o → h'.get? ct = some o) : PatAt h' pat ct code := by
  obtain ⟨⟨op, fs, h1, r⟩, oc, cv, n, h2, r2⟩ := P
  exact ⟨⟨op, fs, k1 _ h1, r⟩, oc, cv, n, k2 _ h2, r2⟩

/-- what a search finds, from each place on -/
def Srch (code : Array Nat) (fnd : Array Nat → Nat → Option (Nat × Nat)) : Prop :=
  ∀ (text : Array Nat) (d : Nat), text.size ≤ 1000000 → d ≤ text.size → ∃ k m', Ends k (Sre.forSearch code text 0 d text.size false) m' ∧ k < 2 ^ 26 ∧ (match fnd text d with
    | some (p, e) => m'.outcome = some .matched ∧ m'.start = p ∧ m'.handed = e ∧ d ≤ p ∧ p < e ∧ e ≤ text.size
    | none => m'.outcome = some .failed)

def subT (fnd : Array Nat → Nat → Option (Nat × Nat)) (repl : List Nat) (text : Array Nat) : Nat → Nat → List Nat
  | 0, _ => []
  | k + 1, d => match fnd text d with
    | some (p, e) => (text.extract d p).toList ++ repl ++ subT fnd repl text k e
    | none => (text.extract d text.size).toList

section
variable {prog : Program} {w : World} {A : Around} {E : Value → Shared → Prop} {s : Shared}

theorem wholeTarget_wp {M : Model} {pat ct : Addr} {code : Array Nat} {x : Str} {t : Tok} {Q : ReTarget → Shared → Prop} (P : PatAt s.heap pat ct code)
    (h : Q { pattern := .ref pat, string := .str x t, code := code, text := x.cps, kind := 0, groups := 0, pos := 0, lim := x.cps.size } s) : wpAny M A (reWholeTarget (.ref pat) (.str x t)) Q E s := by
  obtain ⟨⟨op, fs, h1, _, _, hd, h5, ⟨t2, h2⟩, ⟨t6, h6⟩⟩, oc, cv, n, hc, hcd, hcode⟩ := P
  unfold reWholeTarget
  refine wpAny_bind ?_
  show wpAny M A (do match (← load pat).data with | .fields vs => pure vs | _ => unsupported "internal:no-fields") _ _ _
  refine wpAny_bind (wpAny_load h1 ?_)
  rw [hd]
  refine wpAny_pure ?_
  refine wpAny_bind ?_
  show wpAny M A (pure (x.cps, 0)) _ _ _
  refine wpAny_pure ?_
  dsimp only
  rw [h6, h5, h2]
  show wpAny M A (reRawItems (.ref ct) >>= _) _ _ _
  refine wpAny_bind ?_
  unfold reRawItems
  refine wpAny_bind ?_
  show wpAny M A (do match (← load ct).data with | .seq xs _ => pure (some xs) | _ => pure none) _ _ _
  refine wpAny_bind (wpAny_load hc ?_)
  rw [hcd]
  refine wpAny_pure (wpAny_pure (wpAny_pure ?_))
  show Q { pattern := .ref pat, string := .str x t, code := (cv.map reRawOf).map (·.toNat), text := x.cps, kind := 0, groups := 0, pos := 0, lim := x.cps.size } s
  rw [hcode]; exact h

theorem push_wp {M : Model} {l : Addr} {items : Array Value} {x : Value} {Q : Unit → Shared → Prop} (hl : s.heap.IsList l items)
    (hQ : ∀ h', h'.IsList l (items.push x) → Heap.SameBut l s.heap h' → Q () { s with heap := h' }) (hsz : items.size ≤ sizeLine) :
    wpAny M A (updateSeq l (·.push x)) Q E s := by
  obtain ⟨o, ho, hc, n, hd⟩ := id hl
  obtain ⟨n', hd'⟩ := Obj.data_mapSeq hd (·.push x)
  refine wpAny_updateSeq ho hd (hQ _ ?_ (Heap.SameBut.update ..)) hsz (by show (items.push x).size ≤ _; rw [Array.size_push]; omega)
  exact ⟨_, Heap.get?_update_self _ ho (Obj.isFreed_of_seq hd'), (Obj.cls_mapSeq ..).trans hc, n', hd'⟩

def cat (ys : List Str) : List Nat := (ys.map (·.cps.toList)).flatten
theorem cat_append (a b : List Str) : cat (a ++ b) = cat a ++ cat b := by simp [cat]
theorem cat_one (x : Str) : cat [x] = x.cps.toList := by simp [cat]
theorem join_empty (sep : Str) (hs : sep.cps = #[]) : ∀ ys : List Str, (Str.join sep ys).cps.toList = cat ys
  | [] => rfl
  | [x] => by simp [cat, Str.join]
  | x :: y :: r => by
    show ((x ++ sep) ++ Str.join sep (y :: r)).cps.toList = _
    rw [Str.cps_append, Str.cps_append, hs, Array.toList_append, join_empty sep hs (y :: r)]
    simp [cat]
theorem txtJoin_empty (sep : Str) (hs : sep.cps = #[]) (ys : List Str) : Txt.join sep ys = ⟨(cat ys).toArray⟩ := by
  unfold Txt.join
  rw [StrLaws.glued_eq_join]
  apply Str.ext'
  rw [← join_empty sep hs ys]

def loopArgs (pat lst : Addr) (x repl : Str) (t tr : Tok) (n d : Int) : Args :=
  ⟨[.ref pat, .str x t, .str repl tr, rawInt 0, rawInt 0, rawInt n, rawInt d, rawInt d, .bool false, .ref lst, .bool false], []⟩

theorem sub_loop {pat ct lst : Addr} {code : Array Nat} {fnd : Array Nat → Nat → Option (Nat × Nat)} {x repl : Str} {t tr : Tok} {R : Result → Shared → Prop}
    (hS : Srch code fnd) (hx : x.length ≤ 1000000) (hr : repl.length ≤ 2) (hpl : pat ≠ lst) (hcl : ct ≠ lst) :
    ∀ (fuel d : Nat) (n : Int) (s : Shared) (items : Array Value) (ys : List Str), x.length < d + fuel → d ≤ x.length → PatAt s.heap pat ct code → s.heap.IsList lst items → StrsAre items.toList ys →
      (ys.map (·.length)).sum ≤ 3 * d → ys.length ≤ 2 * d →
      (∀ h' tk t', (∀ b o, b ≠ lst → s.heap.get? b = some o → h'.get? b = some o) → R (.ok (.ret (.str ⟨(cat ys ++ subT fnd repl.cps.toList x.cps fuel d).toArray⟩ t'))) { s with heap := h', toks := tk }) →
      codeAny (model prog w) A (.builtin "re.Pattern.sub.loop" (loopArgs pat lst x repl t tr n d)) R s
  | 0, d, n, s, items, ys, hf, hd, hP, hl, hi, hsum, hlen, hR => by omega
  | fuel + 1, d, n, s, items, ys, hf, hd, hP, hl, hi, hsum, hlen, hR => by
    have hxs : x.cps.size = x.length := rfl
    have hsl : sizeLine = 16777216 := sizeLine_eq
    refine codeAny_builtin entry_loop ?_
    rw [Around.under_plainId (by decide +kernel)]
    unfold Builtin.«re.Pattern.sub.loop» loopArgs
    dsimp only [rawInt]
    refine wpAny_bind (wholeTarget_wp hP ?_)
    show wpAny _ _ (reLiteralCannotBeTurned (.str repl tr) >>= _) _ _ _
    refine wpAny_bind ?_
    show wpAny _ _ (pure ()) _ _ _
    refine wpAny_pure ?_
    dsimp only
    simp only [bne_self_eq_false, Bool.false_and, Bool.false_eq_true, if_false, Int.toNat_natCast, beq_self_eq_true, if_true]
    obtain ⟨k, m', he, hk, hm⟩ := hS x.cps d (by omega) hd
    unfold reNextFound
    refine wpAny_bind (reRunToEnd_wp he hk ⟨fun ho => ?_, fun ho => ?_⟩ ?_)
    · -- found
      cases hfd : fnd x.cps d with
      | none => rw [hfd] at hm; rw [hm] at ho; cases ho
      | some pe =>
        obtain ⟨p, e⟩ := pe
        rw [hfd] at hm
        obtain ⟨_, hst, hha, hdp, hpe, hes⟩ := hm
        dsimp only
        rw [hst, hha]
        have hmust : (e == p) = false := by simp; omega
        have htail : ∀ (s₁ : Shared) (items₁ : Array Value) (ys₁ : List Str), s₁.heap.IsList lst items₁ → StrsAre items₁.toList ys₁ → (ys₁.map (·.length)).sum ≤ 3 * d + (p - d) → ys₁.length ≤ 2 * d + 1 →
            cat ys₁ = cat ys ++ (x.cps.extract d p).toList → (∀ b o, b ≠ lst → s.heap.get? b = some o → s₁.heap.get? b = some o) → (∃ h₁ tk₁, s₁ = { s with heap := h₁, toks := tk₁ }) →
            wpAny (model prog w) A.in1 (do
              let item ← pure (Value.str repl tr)
              if (item != Value.none) = true then do
                updateSeq lst fun x => x.push item
                again (Code.builtin "re.Pattern.sub.loop" { pos := [Value.ref pat, Value.str x t, Value.str repl tr, Value.int 0 0, Value.int 0 0, Value.int (n + 1) 0, Value.int (↑e) 0, Value.int (↑e) 0, Value.bool (e == p), Value.ref lst, Value.bool false] })
              else
                again (Code.builtin "re.Pattern.sub.loop" { pos := [Value.ref pat, Value.str x t, Value.str repl tr, Value.int 0 0, Value.int 0 0, Value.int (n + 1) 0, Value.int (↑e) 0, Value.int (↑e) 0, Value.bool (e == p), Value.ref lst, Value.bool false] }))
              (fun fin s' => match fin with | .done f => R (.ok f) s' | .again c' => c'.quiet = true ∧ codeAny (model prog w) A c' R s') (fun e s' => R (.error e) s') s₁ := by
          intro s₁ items₁ ys₁ hl₁ hi₁ hsum₁ hlen₁ hcat₁ hk₁ ⟨h₁, tk₁, hs₁⟩
          refine wpAny_bind (wpAny_pure ?_)
          have hb : ((Value.str repl tr != Value.none) = true) = True := by simp
          rw [if_pos (by rw [hb]; trivial)]
          have hsz : items₁.size ≤ sizeLine := by
            have := hi₁.len_eq
            rw [Array.length_toList] at this
            omega
          refine wpAny_bind (push_wp hl₁ (fun h₂ hl₂ hsb => wpAny_pure ⟨plainId_quiet (by decide +kernel) _, ?_⟩) hsz)
          rw [hmust]
          refine sub_loop hS hx hr hpl hcl fuel e (n + 1) { s₁ with heap := h₂ } (items₁.push (.str repl tr)) (ys₁ ++ [repl]) (by omega) hes ?_ hl₂ ?_ ?_ ?_ ?_
          · exact hP.keeps (fun o ho' => hsb.extBut _ _ hpl (hk₁ _ _ hpl ho')) (fun o ho' => hsb.extBut _ _ hcl (hk₁ _ _ hcl ho'))
          · rw [Array.toList_push]
            exact hi₁.append' (.cons repl tr .nil)
          · rw [List.map_append, List.sum_append]
            simp only [List.map_cons, List.map_nil, List.sum_cons, List.sum_nil]
            omega
          · rw [List.length_append, List.length_singleton]; omega
          · intro h' tk t' hk'
            have hR' := hR h' tk t' (fun b o hb e => hk' b o hb (hsb.extBut _ _ hb (hk₁ b o hb e)))
            rw [subT, hfd] at hR'
            rw [cat_append, hcat₁, cat_one]
            subst hs₁
            simpa only [List.append_assoc] using hR'
        by_cases hlt : d < p
        · rw [if_pos hlt]
          unfold reSlice
          simp only [beq_self_eq_true, if_true]
          have hel : (x.cps.extract d p).size = p - d := by rw [Array.size_extract]; omega
          refine wpAny_bind (wpAny_mkStr ?_ (by show (x.cps.extract d p).size ≤ _; omega))
          have hsz : items.size ≤ sizeLine := by
            have := hi.len_eq
            rw [Array.length_toList] at this
            omega
          refine wpAny_bind (push_wp hl (fun h₂ hl₂ hsb => ?_) hsz)
          refine htail _ (items.push (.str ⟨x.cps.extract d p⟩ s.toks)) (ys ++ [⟨x.cps.extract d p⟩]) hl₂ ?_ ?_ ?_ ?_ ?_ ⟨_, _, rfl⟩
          · rw [Array.toList_push]
            exact hi.append' (.cons _ _ .nil)
          · rw [List.map_append, List.sum_append]
            simp only [List.map_cons, List.map_nil, List.sum_cons, List.sum_nil]
            show _ + ((x.cps.extract d p).size + 0) ≤ _
            omega
          · rw [List.length_append, List.length_singleton]; omega
          · rw [cat_append, cat_one]
          · exact fun b o hb e => hsb.extBut _ _ hb e
        · rw [if_neg hlt]
          have hdp' : p = d := by omega
          refine htail s items ys hl hi (by omega) (by omega) ?_ (fun _ _ _ e => e) ⟨s.heap, s.toks, rfl⟩
          rw [hdp', Array.extract_eq_empty_of_le (by omega)]; simp
    · cases hfd : fnd x.cps d with
      | some pe => rw [hfd] at hm; rw [hm.1] at ho; cases ho
      | none =>
        dsimp only
        have hend : ∀ (s₁ : Shared) (items₁ : Array Value) (ys₁ : List Str), s₁.heap.IsList lst items₁ → StrsAre items₁.toList ys₁ → (ys₁.map (·.length)).sum ≤ 3 * x.length →
            cat ys₁ = cat ys ++ (x.cps.extract d x.cps.size).toList → (∀ b o, b ≠ lst → s.heap.get? b = some o → s₁.heap.get? b = some o) → (∃ h₁ tk₁, s₁ = { s with heap := h₁, toks := tk₁ }) →
            wpAny (model prog w) A.in1 (do
              let joiner ← reSlice x.cps 0 0 0
              let text ← if ((← seqItems? (Value.ref lst)).getD #[]).isEmpty = true then pure joiner else call (Value.builtin "str.join") [joiner, Value.ref lst]
              ret text)
              (fun fin s' => match fin with | .done f => R (.ok f) s' | .again c' => c'.quiet = true ∧ codeAny (model prog w) A c' R s') (fun e s' => R (.error e) s') s₁ := by
          intro s₁ items₁ ys₁ hl₁ hi₁ hsum₁ hcat₁ hk₁ ⟨h₁, tk₁, hs₁⟩
          obtain ⟨o, ho', hc', n', hd'⟩ := id hl₁
          refine wpAny_bind ?_
          unfold reSlice
          simp only [beq_self_eq_true, if_true]
          refine wpAny_mkStr ?_ (by show (x.cps.extract 0 0).size ≤ _; simp)
          have hemp : x.cps.extract 0 0 = #[] := by simp
          rw [hemp]
          have hR' : ∀ h' tk t', (∀ b o, b ≠ lst → s₁.heap.get? b = some o → h'.get? b = some o) → R (.ok (.ret (.str ⟨(cat ys₁).toArray⟩ t'))) { s with heap := h', toks := tk } := by
            intro h' tk t' hk'
            have hR' := hR h' tk t' (fun b o hb e => hk' b o hb (hk₁ b o hb e))
            rw [subT, hfd] at hR'
            rw [hcat₁]
            exact hR'
          refine wpAny_bind ?_
          show wpAny _ _ (do match (← load lst).data with | .seq xs _ => pure (some xs) | _ => pure none) _ _ _
          refine wpAny_bind (wpAny_load ho' ?_)
          rw [hd']
          refine wpAny_pure ?_
          show wpAny _ _ (if items₁.isEmpty = true then _ else _) _ _ _
          cases hem : items₁.isEmpty with
          | true =>
            rw [if_pos rfl]
            refine wpAny_bind (wpAny_pure (wpAny_pure ?_))
            have hnil : ys₁ = [] := by
              have e0 : items₁ = #[] := Array.isEmpty_iff.mp hem
              rw [e0] at hi₁
              cases hi₁; rfl
            subst hnil
            subst hs₁
            exact hR' h₁ (tk₁ + 1) tk₁ (fun _ _ _ e => e)
          | false =>
            rw [if_neg Bool.false_ne_true]
            refine wpAny_bind (join_list hl₁ hi₁ (by show (ys₁.map (·.length)).sum + ys₁.length * (#[] : Array Nat).size ≤ _; simp; omega) ?_)
            intro t' k'
            refine wpAny_pure ?_
            rw [txtJoin_empty _ rfl]
            subst hs₁
            exact hR' h₁ k' t' (fun _ _ _ e => e)
        by_cases hlt : d < x.cps.size
        · rw [if_pos hlt]
          refine wpAny_bind ?_
          unfold reSlice
          simp only [beq_self_eq_true, if_true]
          have hel : (x.cps.extract d x.cps.size).size = x.cps.size - d := by rw [Array.size_extract]; omega
          refine (wpAny_mkStr ?_ (by show (x.cps.extract d x.cps.size).size ≤ _; omega))
          have hsz : items.size ≤ sizeLine := by
            have := hi.len_eq
            rw [Array.length_toList] at this
            omega
          refine wpAny_bind (push_wp hl (fun h₂ hl₂ hsb => ?_) hsz)
          refine hend _ (items.push (.str ⟨x.cps.extract d x.cps.size⟩ s.toks)) (ys ++ [⟨x.cps.extract d x.cps.size⟩]) hl₂ ?_ ?_ ?_ ?_ ⟨_, _, rfl⟩
          · rw [Array.toList_push]
            exact hi.append' (.cons _ _ .nil)
          · rw [List.map_append, List.sum_append]
            simp only [List.map_cons, List.map_nil, List.sum_cons, List.sum_nil]
            show _ + ((x.cps.extract d x.cps.size).size + 0) ≤ _
            omega
          · rw [cat_append, cat_one]
          · exact fun b o hb e => hsb.extBut _ _ hb e
        · rw [if_neg hlt]
          refine hend s items ys hl hi (by omega) ?_ (fun _ _ _ e => e) ⟨s.heap, s.toks, rfl⟩
          rw [Array.extract_eq_empty_of_le (by omega)]; simp
    · cases hfd : fnd x.cps d with
      | some pe => rw [hfd] at hm; exact .inl hm.1
      | none => rw [hfd] at hm; exact .inr hm

theorem noCall_str : typeLookup (.type "str") "__call__" = pure none := by rw [typeLookup_type, builtinLookup_eq_fast]; kernel_rfl
theorem typeIs_pat {pat ct : Addr} {code : Array Nat} (P : PatAt s.heap pat ct code) : s.TypeIs (.ref pat) "re.Pattern" := by
  obtain ⟨⟨op, fs, h1, hc, _⟩, _⟩ := P
  exact ⟨op, h1, hc⟩

theorem sub_call {pat ct : Addr} {code : Array Nat} {fnd : Array Nat → Nat → Option (Nat × Nat)} {x repl : Str} {t tr : Tok} {Q : Value → Shared → Prop}
    (hS : Srch code fnd) (hx : x.length ≤ 1000000) (hr : repl.length ≤ 2) (hlit : repl.cps.contains 92 = false) (hP : PatAt s.heap pat ct code)
    (h : ∀ s' t', Keeps s s' → Q (.str ⟨(subT fnd repl.cps.toList x.cps (x.length + 1) 0).toArray⟩ t') s') :
    wpAny (model prog w) A (call (.builtin "re.Pattern.sub") [.ref pat, .str repl tr, .str x t]) Q E s := by
  refine wpAny_call (codeAny_call_builtin slot_sub.plain entry_sub (slot_sub.check _ _ _ _ _ _ _ _ (typeIs_pat hP) (args_sub _ _ _) ?_))
  unfold Builtin.«re.Pattern.sub» reSubstitute
  dsimp only
  refine wpAny_bind ?_
  refine wpAny_of_eq (a := [some (.str repl tr), some (.str x t), none]) rfl ?_
  dsimp only
  refine wpAny_bind (wpAny_pure ?_)
  refine wpAny_bind (wpAny_specialOf (typeIs_str _ _ _) noCall_str ?_)
  show wpAny _ _ (asStr? (.str repl tr) >>= _) _ _ _
  refine wpAny_bind (wpAny_pure ?_)
  dsimp only
  rw [hlit]
  show wpAny _ _ (holding [.str repl tr] (reWholeTarget (.ref pat) (.str x t)) >>= _) _ _ _
  refine wpAny_bind (wpAny_holding (wholeTarget_wp hP ?_))
  show wpAny _ _ (newList [] >>= _) _ _ _
  refine wpAny_bind (wpAny_newObj_type ?_)
  refine wpAny_pure ⟨plainId_quiet (by decide +kernel) _, ?_⟩
  have hpat : pat < s.heap.objs.size := by obtain ⟨⟨_, _, h1, _⟩, _⟩ := hP; exact Heap.lt_size h1
  have hct : ct < s.heap.objs.size := by obtain ⟨_, _, _, _, h1, _⟩ := hP; exact Heap.lt_size h1
  refine sub_loop hS hx hr (Nat.ne_of_lt hpat) (Nat.ne_of_lt hct) (x.length + 1) 0 0 _ #[] [] (by omega) (by omega) ?_ ?_ .nil (by simp) (by simp) ?_
  · exact hP.keeps (fun _ e => Heap.get?_push_of_some _ e) (fun _ e => Heap.get?_push_of_some _ e)
  · exact ⟨_, Heap.get?_push_size _ rfl, rfl, _, rfl⟩
  · intro h' tk t' hk
    exact h _ t' ⟨h', tk, rfl, fun b o e => hk b o (Nat.ne_of_lt (Heap.lt_size e)) (Heap.get?_push_of_some _ e)⟩
end
end
end Mine
-- SubC
namespace Mine
section
open PySem PyProof.Rows

def nf : Bool → List Nat → List Nat
  | _, [] => []
  | p, c :: t => if c = 13 then 13 :: 10 :: nf true t else if c = 10 then (if p = true then nf false t else 13 :: 10 :: nf false t) else c :: nf false t
def df : Bool → List Nat → List Nat
  | _, [] => []
  | b, c :: t => if b = true ∧ c = 46 then 46 :: 46 :: df false t else c :: df (c == 10) t

def fnd1 (text : Array Nat) (d : Nat) : Option (Nat × Nat) := (find1 text (text.size - d) d).map fun p => (p, p + 1)
def fnd2 (text : Array Nat) (d : Nat) : Option (Nat × Nat) := (find2 text (text.size - d) d).map fun p => (p, end2 text p)

theorem srch1 : Srch code1 fnd1 := fun text d hsz hd => by
  obtain ⟨m', he, hm⟩ := search1 (text := text) d hd
  refine ⟨_, m', he, by omega, ?_⟩
  unfold fnd1
  cases h : find1 text (text.size - d) d with
  | none => rw [h] at hm; exact hm
  | some p =>
    rw [h] at hm
    obtain ⟨h1, h2, h3⟩ := hm
    obtain ⟨_, a, b⟩ := find1_some h
    exact ⟨h1, h2, h3, a, by omega, by omega⟩

theorem getD_lt {text : Array Nat} {i c : Nat} (h : text.getD i 0 = c) (hc : c ≠ 0) : i < text.size := by
  apply Decidable.byContradiction
  intro hge
  rw [Array.getD_eq_getD_getElem?, Array.getElem?_eq_none (by omega)] at h
  exact hc h.symm

theorem srch2 : Srch code2 fnd2 := fun text d hsz hd => by
  obtain ⟨m', he, hm⟩ := search2 (text := text) d hd
  refine ⟨_, m', he, by omega, ?_⟩
  unfold fnd2
  cases h : find2 text (text.size - d) d with
  | none => rw [h] at hm; exact hm
  | some p =>
    rw [h] at hm
    obtain ⟨h1, h2, h3⟩ := hm
    obtain ⟨_, a, b⟩ := find2_some h
    refine ⟨h1, h2, h3, a, ?_, ?_⟩
    · unfold end2; split <;> omega
    · unfold end2
      split
      · rename_i hq
        have := getD_lt hq.2 (by decide); omega
      · omega

theorem toList_getD (text : Array Nat) (i : Nat) : text.getD i 0 = text.toList.getD i 0 := by
  rw [Array.getD_eq_getD_getElem?, List.getD_eq_getElem?_getD, Array.getElem?_toList]

theorem drop_cons {T : List Nat} {d : Nat} (h : d < T.length) : T.drop d = T.getD d 0 :: T.drop (d + 1) := by
  rw [List.drop_eq_getElem_cons h, List.getD_eq_getElem?_getD, List.getElem?_eq_getElem h]; rfl

theorem nf_head {l : List Nat} (h : l.getD 0 0 ≠ 10) : nf true l = nf false l := by
  cases l with
  | nil => rfl
  | cons c t =>
    have hc : c ≠ 10 := h
    simp [nf, hc]

theorem nf_found {text : Array Nat} : ∀ (k d : Nat), d + k = text.size → (match find2 text k d with
    | some p => nf false (text.toList.drop d) = (text.toList.drop d).take (p - d) ++ [13, 10] ++ nf false (text.toList.drop (end2 text p))
    | none => nf false (text.toList.drop d) = text.toList.drop d)
  | 0, d, h => by
    show nf false (text.toList.drop d) = text.toList.drop d
    rw [List.drop_eq_nil_of_le (by simp; omega)]; rfl
  | k + 1, d, h => by
    have hd : d < text.toList.length := by simp; omega
    have ih := nf_found (text := text) k (d + 1) (by omega)
    rw [find2]
    cases ha : at2 text d with
    | true =>
      rw [if_pos rfl]
      show _ = _
      unfold at2 at ha
      simp only [Bool.or_eq_true, beq_iff_eq] at ha
      rw [toList_getD] at ha
      rw [drop_cons hd, Nat.sub_self, List.take_zero, List.nil_append]
      unfold end2
      rw [toList_getD, toList_getD]
      by_cases h10 : text.toList.getD d 0 = 10
      · rw [h10, if_neg (by omega)]; simp [nf]
      · have h13 := ha.resolve_left h10
        rw [h13]
        by_cases hn : text.toList.getD (d + 1) 0 = 10
        · rw [if_pos ⟨rfl, hn⟩]
          have hd1 : d + 1 < text.toList.length := by
            apply Decidable.byContradiction
            intro hge
            rw [List.getD_eq_getElem?_getD, List.getElem?_eq_none (by omega)] at hn; cases hn
          rw [drop_cons hd1, hn]; simp [nf]
        · rw [if_neg (fun q => hn q.2)]
          have : nf true (text.toList.drop (d + 1)) = nf false (text.toList.drop (d + 1)) := nf_head (by
            rw [List.getD_eq_getElem?_getD, List.getElem?_drop, Nat.add_zero, ← List.getD_eq_getElem?_getD]; exact hn)
          simp [nf, this]
    | false =>
      rw [if_neg Bool.false_ne_true]
      unfold at2 at ha
      simp only [Bool.or_eq_false_iff, beq_eq_false_iff_ne] at ha
      rw [toList_getD] at ha
      cases hf : find2 text k (d + 1) with
      | none =>
        rw [hf] at ih
        show _ = _
        rw [drop_cons hd]
        simp only [nf, ha.1, ha.2, if_false]
        rw [ih]
      | some p =>
        rw [hf] at ih
        show _ = _
        obtain ⟨_, hp, _⟩ := find2_some hf
        rw [drop_cons hd, show p - d = (p - (d + 1)) + 1 by omega, List.take_succ_cons]
        simp only [nf, ha.1, ha.2, if_false]
        rw [ih]; rfl

theorem sub2_eq {text : Array Nat} : ∀ (fuel d : Nat), d ≤ text.size → text.size < d + fuel → subT fnd2 [13, 10] text fuel d = nf false (text.toList.drop d)
  | 0, d, h1, h2 => by omega
  | fuel + 1, d, h1, h2 => by
    have h := nf_found (text := text) (text.size - d) d (by omega)
    rw [subT]
    unfold fnd2
    cases hf : find2 text (text.size - d) d with
    | none =>
      rw [hf] at h
      show (text.extract d text.size).toList = _
      rw [Array.toList_extract, List.extract_eq_take_drop]
      rw [h, List.take_of_length_le (by simp)]
    | some p =>
      rw [hf] at h
      obtain ⟨_, hp, hp2⟩ := find2_some hf
      have he : d < end2 text p := by unfold end2; split <;> omega
      have he2 : end2 text p ≤ text.size := by
        unfold end2
        split
        · rename_i hq
          have := getD_lt hq.2 (by decide); omega
        · omega
      show (text.extract d p).toList ++ [13, 10] ++ subT fnd2 [13, 10] text fuel (end2 text p) = _
      rw [sub2_eq fuel (end2 text p) he2 (by omega), Array.toList_extract, List.extract_eq_take_drop]
      exact h.symm

def at0 (T : List Nat) (d : Nat) : Bool := d == 0 || T.getD (d - 1) 0 == 10

theorem df_found {text : Array Nat} : ∀ (k d : Nat), d + k = text.size → (match find1 text k d with
    | some p => df (at0 text.toList d) (text.toList.drop d) = (text.toList.drop d).take (p - d) ++ [46, 46] ++ df (at0 text.toList (p + 1)) (text.toList.drop (p + 1))
    | none => df (at0 text.toList d) (text.toList.drop d) = text.toList.drop d)
  | 0, d, h => by
    show df _ (text.toList.drop d) = text.toList.drop d
    rw [List.drop_eq_nil_of_le (by simp; omega)]; rfl
  | k + 1, d, h => by
    have hd : d < text.toList.length := by simp; omega
    have ih := df_found (text := text) k (d + 1) (by omega)
    have hnext : at0 text.toList (d + 1) = (text.toList.getD d 0 == 10) := by
      unfold at0; simp
    rw [find1]
    have hat : at1 text d = (at0 text.toList d && text.toList.getD d 0 == 46) := by
      unfold at1 at0; rw [toList_getD, toList_getD]
    cases ha : at1 text d with
    | true =>
      rw [if_pos rfl]
      show _ = _
      rw [hat] at ha
      simp only [Bool.and_eq_true, beq_iff_eq] at ha
      rw [drop_cons hd, Nat.sub_self, List.take_zero, List.nil_append, hnext, ha.1, ha.2]
      simp [df]
    | false =>
      rw [if_neg Bool.false_ne_true]
      rw [hat] at ha
      have hn : ¬ (at0 text.toList d = true ∧ text.toList.getD d 0 = 46) := fun q => by
        rw [q.1, q.2] at ha; cases ha
      cases hf : find1 text k (d + 1) with
      | none =>
        rw [hf] at ih
        show _ = _
        rw [hnext] at ih
        rw [drop_cons hd]
        simp only [df, hn, if_false]
        rw [ih]
      | some p =>
        rw [hf] at ih
        show _ = _
        rw [hnext] at ih
        obtain ⟨_, hp, _⟩ := find1_some hf
        rw [drop_cons hd, show p - d = (p - (d + 1)) + 1 by omega, List.take_succ_cons]
        simp only [df, hn, if_false]
        rw [ih]; rfl

theorem sub1_eq {text : Array Nat} : ∀ (fuel d : Nat), d ≤ text.size → text.size < d + fuel → subT fnd1 [46, 46] text fuel d = df (at0 text.toList d) (text.toList.drop d)
  | 0, d, h1, h2 => by omega
  | fuel + 1, d, h1, h2 => by
    have h := df_found (text := text) (text.size - d) d (by omega)
    rw [subT]
    unfold fnd1
    cases hf : find1 text (text.size - d) d with
    | none =>
      rw [hf] at h
      show (text.extract d text.size).toList = _
      rw [Array.toList_extract, List.extract_eq_take_drop]
      rw [h, List.take_of_length_le (by simp)]
    | some p =>
      rw [hf] at h
      obtain ⟨_, hp, hp2⟩ := find1_some hf
      show (text.extract d p).toList ++ [46, 46] ++ subT fnd1 [46, 46] text fuel (p + 1) = _
      rw [sub1_eq fuel (p + 1) (by omega) (by omega), Array.toList_extract, List.extract_eq_take_drop]
      exact h.symm

theorem sub2_all (x : Str) : subT fnd2 [13, 10] x.cps (x.length + 1) 0 = nf false x.cps.toList :=
  (sub2_eq (x.length + 1) 0 (Nat.zero_le _) (by show x.length < _; omega)).trans (by rw [List.drop_zero])
theorem sub1_all (x : Str) : subT fnd1 [46, 46] x.cps (x.length + 1) 0 = df true x.cps.toList :=
  (sub1_eq (x.length + 1) 0 (Nat.zero_le _) (by show x.length < _; omega)).trans (by rw [List.drop_zero]; rfl)
end
end Mine
-- Kit
namespace Mine
section
open PySem PySem.W PyProof.Rows

/-- what the top left, at any heap of the call -/
structure Wd (K : Frag) (mg mb : Str → Option Value) (h : Heap) : Prop where
  g : h.Ns mainGlobals mg
  b : h.Ns builtinsNs mb
  nolimit : h.NoLimit
  builtins : ∀ x : Str, x ≠ "__name__" → mb x = bootBuiltins x
  X : K.In h

theorem Wd.keeps {K : Frag} {mg mb : Str → Option Value} {h h' : Heap} (W : Wd K mg mb h) (k : ∀ b o, h.get? b = some o → h'.get? b = some o) : Wd K mg mb h' :=
  ⟨W.g.keeps k, W.b.keeps k, W.nolimit.keeps k, W.builtins, W.X.keeps k⟩

theorem kp_refl (s : Shared) : Keeps s s := ⟨s.heap, s.toks, rfl, fun _ _ e => e⟩
theorem kp_trans {s₁ s₂ s₃ : Shared} (a : Keeps s₁ s₂) (b : Keeps s₂ s₃) : Keeps s₁ s₃ := by
  obtain ⟨h, t, rfl, k⟩ := a
  obtain ⟨h', t', rfl, k'⟩ := b
  exact ⟨h', t', rfl, fun b o e => k' b o (k b o e)⟩
theorem kp_kept {s₁ s₂ : Shared} (a : Keeps s₁ s₂) : ∀ b o, s₁.heap.get? b = some o → s₂.heap.get? b = some o := by
  obtain ⟨h, t, rfl, k⟩ := a; exact k
theorem kp_toks (s : Shared) (t : Nat) : Keeps s { s with toks := t } := ⟨s.heap, t, rfl, fun _ _ e => e⟩

section
variable {M : Model} {A : Around} {E : Value → Shared → Prop} {s : Shared} {env : Env} {Q : Value → Shared → Prop}

theorem ldg {K : Frag} {mg mb : Str → Option Value} {x : Str} {pos : Pos} {v : Value} (W : Wd K mg mb s.heap) (e : nsIn K mainGlobals x = some (some v)) (h : Q v s)
    (hg : env.globals = mainGlobals := by rfl) (hk : env.scope.kind = .function := by rfl) (hx : env.kindOf x = some .globalImplicit := by rfl) (hd : (x == ("__debug__" : Str)) = false := by decide) :
    wpAny M A (eval (.Name x pos) env) Q E s :=
  Calls.Name_function_global hk hx (Calls.loadGlobal_global (hg ▸ W.g) (mg_of W.X W.g e) h) hd
theorem ldb {K : Frag} {mg mb : Str → Option Value} {x : Str} {pos : Pos} {v : Value} (W : Wd K mg mb s.heap) (e : nsIn K mainGlobals x = some none) (hv : bootBuiltins x = some v) (hn : x ≠ "__name__") (h : Q v s)
    (hg : env.globals = mainGlobals := by rfl) (hb : env.builtins = builtinsNs := by rfl) (hk : env.scope.kind = .function := by rfl) (hx : env.kindOf x = some .globalImplicit := by rfl) (hd : (x == ("__debug__" : Str)) = false := by decide) :
    wpAny M A (eval (.Name x pos) env) Q E s :=
  Calls.Name_function_global hk hx (Calls.loadGlobal_builtin (hg ▸ W.g) (mg_none_of W.X W.g e) (hb ▸ W.b) ((W.builtins x hn).trans hv) h) hd
/-- a local's value -/
theorem ldl {x : Str} {pos : Pos} {v : Value} {m : Str → Option Value} (hn : s.heap.Ns env.locals m) (hv : m x = some v) (h : Q v s)
    (hk : env.scope.kind = .function := by rfl) (hl : env.kindOf x = some .local := by rfl) (hd : (x == ("__debug__" : Str)) = false := by decide) :
    wpAny M A (eval (.Name x pos) env) Q E s := wpAny_Name (wpAny_loadName_local hk hl hn hv h) hd
end

section
variable {prog : Program} {w : World} {A : Around} {E : Value → Shared → Prop} {s : Shared} {env : Env} {Q : Value → Shared → Prop}

theorem Call_sub {o e₁ e₂ : Expr} {apos pos : Pos}
    (h : wpAny (model prog w) A (eval o env) (fun ov s₁ => ∃ pat ct code, ov = .ref pat ∧ PatAt s₁.heap pat ct code ∧
      wpAny (model prog w) A (eval e₁ env) (fun v₁ s₂ => wpAny (model prog w) A (eval e₂ env) (fun v₂ s₃ => wpAny (model prog w) A (call (.builtin "re.Pattern.sub") [.ref pat, v₁, v₂]) Q E s₃) E s₂) E s₁) E s)
    (hbase : attributeBase o "sub" env (eval o env) = eval o env := by rfl) (hs : starEach [e₁, e₂] env = [(false, eval e₁ env), (false, eval e₂ env)] := by rfl) (hline : (apos.endLine == pos.line) = true := by rfl) :
    wpAny (model prog w) A (eval (.Call (.Attribute o "sub" apos) [e₁, e₂] [] pos) env) Q E s := by
  refine Call_method2 hbase hs hline (wpAny_mono h (fun ov s₁ h₁ => ?_) fun _ _ x => x)
  obtain ⟨pat, ct, code, rfl, P, h₂⟩ := h₁
  refine ⟨"re.Pattern", "re.Pattern.sub", plainAttrs_pattern, slot_sub, type_sub, typeIs_pat P, ?_, ?_⟩
  · rintro a ha
    cases ha
    obtain ⟨⟨op, fs, h1, _, hd, _⟩, _⟩ := P
    exact ⟨op, h1, hd⟩
  · exact Calls.callWith_builtin rfl (Calls.evalArgs_plain (Calls.spliced_cons (wpAny_mono h₂ (fun _ _ h₃ => Calls.spliced_cons (wpAny_mono h₃ (fun _ _ h₄ => Calls.spliced_nil h₄) fun _ _ e => e)) fun _ _ e => e)))
end

def quoted (x : Str) : Str := ⟨(df true (nf false x.cps.toList)).toArray⟩

theorem nf_len : ∀ (b : Bool) (l : List Nat), (nf b l).length ≤ 2 * l.length
  | _, [] => Nat.le_refl _
  | b, c :: t => by
    have h1 := nf_len true t
    have h2 := nf_len false t
    rw [nf]
    split
    · simp only [List.length_cons]; omega
    · split
      · split
        · simp only [List.length_cons]; omega
        · simp only [List.length_cons]; omega
      · simp only [List.length_cons]; omega
theorem df_len : ∀ (b : Bool) (l : List Nat), (df b l).length ≤ 2 * l.length
  | _, [] => Nat.le_refl _
  | b, c :: t => by
    have h1 := df_len false t
    have h2 := df_len (c == 10) t
    rw [df]
    split
    · simp only [List.length_cons]; omega
    · simp only [List.length_cons]; omega
end
end Mine
-- Top_01
namespace Mine
section
open PySem PySem.W PyProof.Rows
set_option maxHeartbeats 8000000
open_top hd for PySem.Challenge.rw_pg0010_01
end
end Mine
-- Q01
namespace Mine
section
open PySem PySem.W PyProof.Rows
noncomputable abbrev KK (w : World) : Frag := hd.heap_39 w.params
abbrev PP : Program := PySem.Challenge.pw_pg0010_01

section
variable {w : World} {A : Around} {E : Value → Shared → Prop} {s : Shared} {mg mb : Str → Option Value}

theorem pat1 {h : Heap} (X : (KK w).In h) : PatAt h 43 42 code1 :=
  ⟨⟨_, _, X 43 _ rfl, rfl, rfl, rfl, rfl, ⟨_, rfl⟩, ⟨_, rfl⟩⟩, _, _, _, X 42 _ rfl, rfl, by decide +kernel⟩
theorem pat2 {h : Heap} (X : (KK w).In h) : PatAt h 48 47 code2 :=
  ⟨⟨_, _, X 48 _ rfl, rfl, rfl, rfl, rfl, ⟨_, rfl⟩, ⟨_, rfl⟩⟩, _, _, _, X 47 _ rfl, rfl, by decide +kernel⟩

theorem quote_spec {x : Str} {t : Tok} {R : Result → Shared → Prop} (W : Wd (KK w) mg mb s.heap) (hroom : A.depth < recursionLimit) (hx : x.length ≤ 400000)
    (h : ∀ s' t', Keeps s s' → R (.ok (.ret (.str (quoted x) t'))) s') :
    codeAny (model PP w) A (.call (.ref 55) ⟨[.str x t], []⟩) R s := by
  refine call_plain_ret hroom (W.X 55 _ rfl) rfl W.nolimit (codeRec_of W.X rfl) (binds := [("data", .str x t)]) ?_ ?_ (fun h₁ F => ?_)
  · rfl
  · exact locs rfl
  · refine wpAny_execs_cons (wpAny_Return_some ?_)
    have W₁ := W.keeps F.keep
    refine Call_sub (ldg W₁ rfl ⟨43, 42, code1, rfl, pat1 W₁.X, wpAny_Constant_str ?_⟩)
    refine Call_sub (ldg W₁ rfl ⟨48, 47, code2, rfl, pat2 W₁.X, ldg W₁ rfl (ldl F.ns rfl ?_)⟩)
    refine sub_call srch2 (by omega) (by decide) (by decide +kernel) (pat2 W₁.X) fun s₂ t₂ k₂ => ?_
    have W₂ := W₁.keeps (kp_kept k₂)
    have e2 : (Str.ofString "\x0d\n").cps.toList = [13, 10] := by decide +kernel
    have e1 : (Str.ofString "..").cps.toList = [46, 46] := by decide +kernel
    rw [e2, sub2_all]
    have l2 : (Str.mk (nf false x.cps.toList).toArray).length ≤ 1000000 := by
      have := nf_len false x.cps.toList
      show (nf false x.cps.toList).toArray.size ≤ _
      rw [List.size_toArray]
      have e : x.cps.toList.length = x.length := by simp [Str.length]
      omega
    refine sub_call srch1 l2 (by decide) (by decide +kernel) (pat1 W₂.X) fun s₃ t₃ k₃ => ?_
    rw [e1, sub1_all]
    refine h _ _ ?_
    refine kp_trans ?_ k₃
    refine kp_trans ?_ k₂
    exact ⟨h₁, _, rfl, F.keep⟩
end
end
end Mine
-- KitB
namespace Mine
section
open PySem PySem.W PyProof.Rows

def noSlice : Expr → Bool
  | .Slice .. => false
  | _ => true
theorem subs_plain {e : Expr} (h : noSlice e = true) (o i : Value) : subscripted e false o i = operate [o, i] (getItem o i) := by
  cases e <;> first | rfl | cases h

section
variable {prog : Program} {w : World} {A : Around} {E : Value → Shared → Prop} {s : Shared} {env : Env} {Q : Value → Shared → Prop}

/-- a text's method of one argument -/
theorem Call_str1 {o e : Expr} {name : Str} {id : String} {apos pos : Pos} (slot : Slot "str" name id) (ty : typeOf (.builtin id) = pure (.type "method_descriptor"))
    (h : wpAny (model prog w) A (eval o env) (fun ov s₁ => ∃ x t, ov = .str x t ∧ wpAny (model prog w) A (eval e env) (fun v s₂ => wpAny (model prog w) A (call (.builtin id) [.str x t, v]) Q E s₂) E s₁) E s)
    (hbase : attributeBase o name env (eval o env) = eval o env := by rfl) (hs : starEach [e] env = [(false, eval e env)] := by rfl) (hline : (apos.endLine == pos.line) = true := by rfl) :
    wpAny (model prog w) A (eval (.Call (.Attribute o name apos) [e] [] pos) env) Q E s := by
  refine Call_method1 hbase hs hline (wpAny_mono h (fun ov s₁ h₁ => ?_) fun _ _ x => x)
  obtain ⟨x, t, rfl, h₂⟩ := h₁
  exact ⟨"str", id, F.plainAttrs_str, slot, ty, typeIs_str _ _ _, (fun _ e => by cases e), Calls.callWith_builtin rfl (Calls.evalArgs_plain (Calls.spliced_cons (wpAny_mono h₂ (fun _ _ h₃ => Calls.spliced_nil h₃) fun _ _ e => e)))⟩

theorem join_call {x : Str} {t : Tok} {D : Addr} {items : Array Value} {ys : List Str} (hl : s.heap.IsList D items) (hi : StrsAre items.toList ys) (hok : (ys.map (·.length)).sum + ys.length * x.length ≤ 16777216)
    (h : ∀ s' t', Keeps s s' → Q (.str (Txt.join x ys) t') s') : wpAny (model prog w) A (call (.builtin "str.join") [.str x t, .ref D]) Q E s :=
  join_list hl hi hok fun t' k => h _ t' (kp_toks s k)

theorem parts_size {x y : Str} (hx : x.length ≤ 1000000) : (Builtin.Str.partsBetween x (Builtin.Str.occurrences x y 0 x.length (x.length + 1)) y.length).length ≤ x.length + 2 := by
  have h := StrLaws.occ_length_le x y 0 x.length (x.length + 1)
  unfold Builtin.Str.partsBetween
  simp only [List.length_map, List.length_zip, List.length_cons, List.length_append, List.length_nil]
  omega

open Builtin.Str in
theorem split_call {x y : Str} {t u : Tok} (hy : (y.length == 0) = false) (hx : x.length ≤ 1000000)
    (h : ∀ s' D items, Keeps s s' → s'.heap.IsList D items → StrsAre items.toList (Txt.split x y) → s.heap.get? D = none → Q (.ref D) s') :
    wpAny (model prog w) A (call (.builtin "str.split") [.str x t, .str y u]) Q E s := by
  have hsl : sizeLine = 16777216 := sizeLine_eq
  have hp := parts_size (x := x) (y := y) hx
  have fresh : s.heap.get? s.heap.objs.size = none := Heap.get?_none_of_le (Nat.le_refl _)
  have fin : ∀ (l : List (Str × Tok)) (k : Nat), l.map (·.1) = Txt.split x y → Q (.ref s.heap.objs.size) { s with toks := k, heap := s.heap.push { cls := .type "list", data := .seq (strValues l).toArray } } := by
    intro l k hl
    refine h _ _ _ ⟨_, k, rfl, fun b o e => Heap.get?_push_of_some _ e⟩ ⟨_, Heap.get?_push_size _ rfl, rfl, _, rfl⟩ ?_ fresh
    rw [← hl]
    simpa using strsAre_of_values l
  cases h1 : (decide (x.length < y.length) || decide (strKind x < strKind y)) with
  | true =>
    refine call_meets F.slot_str_split (typeIs_str _ _ _) F.entry_str_split (F.args_str_split_2 _ _) (meets_str_split_cannot_occur x y t u h1) ?_
    exact fin [(x, t)] s.toks (by unfold Txt.split; rw [if_pos h1]; rfl)
  | false =>
    cases hf : (occurrences x y 0 x.length (x.length + 1)).isEmpty with
    | true =>
      refine call_meets F.slot_str_split (typeIs_str _ _ _) F.entry_str_split (F.args_str_split_2 _ _) (meets_str_split_not_found x y t u h1 hy hf) ?_
      exact fin [(x, t)] s.toks (by unfold Txt.split; rw [if_neg (ne_true_of_eq_false h1), if_pos hf]; rfl)
    | false =>
      refine call_meets F.slot_str_split (typeIs_str _ _ _) F.entry_str_split (F.args_str_split_2 _ _) (meets_str_split_sep x y t u h1 hy hf (by omega) (by omega)) ?_
      show wants Q E _ { s with toks := _, heap := s.heap.push { cls := .type "list", data := .seq (strsFrom s.toks (partsBetween x (occurrences x y 0 x.length (x.length + 1)) y.length)).toArray } }
      rw [strsFrom_eq]
      exact fin (numbered s.toks _) _ ((numbered_texts _ _).trans (by unfold Txt.split; rw [if_neg (ne_true_of_eq_false h1), if_neg (ne_true_of_eq_false hf)]))

/-- a slice's new list -/
theorem list_slice {value : Expr} {lower upper : Option Expr} {p pos : Pos}
    (h : wpAny (model prog w) A (eval value env) (fun o s₁ => wpAny (model prog w) A (evalPart lower env) (fun vl s₂ => wpAny (model prog w) A (evalPart upper env) (fun vu s₃ =>
      ∃ l items lo hi, o = .ref l ∧ s₃.heap.IsList l items ∧ items.size ≤ sizeLine ∧ IsPart vl lo ∧ IsPart vu hi ∧
        ∀ s' D, Keeps s₃ s' → s'.heap.IsList D (slicePick items lo hi none) → s₃.heap.get? D = none → Q (.ref D) s') E s₂) E s₁) E s) :
    wpAny (model prog w) A (eval (.Subscript value (.Slice lower upper none p) pos) env) Q E s := by
  refine Subscript_ (wpAny_mono h (fun o s₁ h₁ => wpAny_Slice (wpAny_mono h₁ (fun vl s₂ h₂ => wpAny_mono h₂ (fun vu s₃ h₃ => ?_) fun _ _ e => e) fun _ _ e => e)) fun _ _ e => e)
  obtain ⟨l, items, lo, hi, rfl, hl, hsz, pl, pu, hQ⟩ := h₃
  rw [evalPart_none]
  refine wpAny_pure ?_
  refine tail_any (ops := [.ref s₃.heap.objs.size, .ref l]) (hl.push _).typeIs slot_list_getitem.lookup (wpAny_getItem_list_slice (hl.push _) (Heap.IsSliceOf.new ..) pl pu .none (by simp) ?_ hsz) rfl
  refine hQ _ _ ⟨_, _, rfl, fun b o e => Heap.get?_push_of_some _ (Heap.get?_push_of_some _ e)⟩ ⟨_, Heap.get?_push_size _ rfl, rfl, _, rfl⟩ ?_
  exact Heap.get?_none_of_le (by rw [Heap.size_push]; exact Nat.le_succ _)

theorem tuple_from {value e : Expr} {p pos : Pos}
    (h : wpAny (model prog w) A (eval value env) (fun o s₁ => wpAny (model prog w) A (eval e env) (fun vl s₂ => ∃ (t : Addr) (items : Array Value) (a : Nat) (u : Tok), o = .ref t ∧ vl = .int (a : Nat) u ∧ IsTup s₂.heap t items ∧ 1 ≤ a ∧ a ≤ items.size ∧ items.size ≤ sizeLine ∧
        ∀ s' D, Keeps s₂ s' → IsTup s'.heap D (items.toList.drop a).toArray → Q (.ref D) s') E s₁) E s) :
    wpAny (model prog w) A (eval (.Subscript value (.Slice (some e) none none p) pos) env) Q E s := by
  refine Subscript_ (wpAny_mono h (fun o s₁ h₁ => wpAny_Slice ?_) fun _ _ e => e)
  rw [evalPart_some]
  refine wpAny_mono h₁ (fun vl s₂ h₂ => ?_) fun _ _ e => e
  obtain ⟨t, items, a, u, rfl, rfl, ht, h1, h2, hsz, hQ⟩ := h₂
  rw [evalPart_none]
  refine wpAny_pure (wpAny_pure ?_)
  have ht' : IsTup (s₂.heap.push { cls := .type "slice", data := .fields #[.int a u, .none, .none] }) t items := ht.keeps fun _ _ e => Heap.get?_push_of_some _ e
  refine tail_any (ops := [.ref s₂.heap.objs.size, .ref t]) ht'.typeIs slot_tuple_getitem.lookup (getItem_tuple_from ht' (Heap.IsSliceOf.new ..) h1 h2 ?_ hsz) rfl
  exact hQ _ _ ⟨_, _, rfl, fun b o e => Heap.get?_push_of_some _ (Heap.get?_push_of_some _ e)⟩ ⟨_, Heap.get?_push_size _ rfl, rfl, _, rfl⟩

theorem tuple_item {value e : Expr} {pos : Pos}
    (h : wpAny (model prog w) A (eval value env) (fun o s₁ => wpAny (model prog w) A (eval e env) (fun i s₂ => ∃ (t : Addr) (items : Array Value) (k : Nat) (u : Tok) (x : Value), o = .ref t ∧ i = .int (k : Nat) u ∧ IsTup s₂.heap t items ∧ items.size ≤ sizeLine ∧ items[k]? = some x ∧ Q x s₂) E s₁) E s)
    (hs : noSlice e = true := by rfl) :
    wpAny (model prog w) A (eval (.Subscript value e pos) env) Q E s := by
  refine Subscript_ (wpAny_mono h (fun o s₁ h₁ => wpAny_mono h₁ (fun i s₂ h₂ => ?_) fun _ _ e => e) fun _ _ e => e)
  obtain ⟨t, items, k, u, x, rfl, rfl, ht, hsz, hx, hQ⟩ := h₂
  have hk : k < items.size := (Array.getElem?_eq_some_iff.mp hx).1
  have hsl : sizeLine = 16777216 := sizeLine_eq
  refine tail_any (ops := [.ref t, .int k u]) ht.typeIs slot_tuple_getitem.lookup (getItem_tuple (j := k) ht (by omega) (by omega) ?_ hx hQ) (subs_plain hs _ _)
  unfold seqIndex?
  simp
  omega

theorem list_item {value e : Expr} {pos : Pos}
    (h : wpAny (model prog w) A (eval value env) (fun o s₁ => wpAny (model prog w) A (eval e env) (fun i s₂ => ∃ (t : Addr) (items : Array Value) (k : Int) (u : Tok) (x : Value), o = .ref t ∧ i = .int k u ∧ s₂.heap.IsList t items ∧ items.size ≤ sizeLine ∧ 0 ≤ k ∧ items[k.toNat]? = some x ∧ Q x s₂) E s₁) E s)
    (hs : noSlice e = true := by rfl) :
    wpAny (model prog w) A (eval (.Subscript value e pos) env) Q E s := by
  refine Subscript_ (wpAny_mono h (fun o s₁ h₁ => wpAny_mono h₁ (fun i s₂ h₂ => ?_) fun _ _ e => e) fun _ _ e => e)
  obtain ⟨t, items, k, u, x, rfl, rfl, ht, hsz, h0, hx, hQ⟩ := h₂
  have hk : k.toNat < items.size := (Array.getElem?_eq_some_iff.mp hx).1
  have hsl : sizeLine = 16777216 := sizeLine_eq
  exact tail_any (ops := [.ref t, .int k u]) ht.typeIs slot_list_getitem.lookup (wpAny_getItem_list ht h0 (by omega) hx hQ) (subs_plain hs _ _)
end

/-- a def with a star, its star's tuple -/
theorem call_star_ret {prog : Program} {w : World} {A : Around} {R : Result → Shared → Prop} {s : Shared} {name : Str} {params : Arguments} {body : List Stmt} {scope : Scope}
    {pm cd doc : Value} {a : Addr} {o : Obj} {args vs : List Value} {binds : Value → List (Str × Value)}
    (hroom : A.depth < recursionLimit) (ho : s.heap.get? a = some o) (hdata : o.data = .func (Calls.docDef name params body scope pm cd doc)) (hlim : s.heap.NoLimit) (hcd : s.heap.CodeRec cd name)
    (hbind : bindArgs (Calls.docDef name params body scope pm cd doc) ⟨args, []⟩ = (do let t ← newTuple vs; pure (binds t)))
    (hloc : ∀ t, ∀ x ∈ binds t, scope.names.lookup x.1 = some .local) (hvs : vs.length ≤ sizeLine)
    (h : ∀ L T s₁, Fr s.heap L s₁.heap (fun x => (binds (.ref T)).reverse.lookup x) → IsTup s₁.heap T vs.toArray → (∃ h₁ tk, s₁ = { s with heap := h₁, toks := tk }) →
      wpAny (model prog w) (A.deeper (envOf name scope L a cd)) (execs body (envOf name scope L a cd))
        (fun f s' => R (.ok (.ret (match f with | .ret v => v | _ => .none))) s') (fun _ _ => False) s₁)
    (hco : scope.isCoroutine = false := by rfl) (hgen : scope.isGenerator = false := by rfl) (hk : scope.kind = .function := by rfl)
    (hcell : ∀ x ∈ scope.names, x.2 ≠ .cell := by decide) :
    codeAny (model prog w) A (.call (.ref a) ⟨args, []⟩) R s := by
  refine codeAny_call_function hroom ho hdata hco hgen rfl hcd ?_
  rw [hbind]
  refine wpAny_bind (wpAny_newObj_type (wpAny_pure ?_) (by show vs.toArray.size ≤ sizeLine; rw [List.size_toArray]; exact hvs))
  refine wpAny_newFunctionEnv hcell (hloc _) (fun h₁ hns hsb => ⟨?_, ?_⟩) hk
  · exact (hlim.keeps fun b o e => Heap.get?_push_of_some _ e).fresh _ hsb
  · show codeAny _ _ (.func body (envOf name scope (s.heap.push { cls := .type "tuple", data := .seq vs.toArray }).objs.size a cd)) _ _
    have hlt : s.heap.objs.size < (s.heap.push { cls := .type "tuple", data := .seq vs.toArray }).objs.size := by rw [Heap.size_push]; exact Nat.lt_succ_self _
    refine codeAny_func (wpAny_mono (h _ _ _ ⟨hns, fun b o e => ?_, Nat.le_of_lt hlt⟩ ?_ ⟨_, _, rfl⟩) (fun _ _ x => x) (fun _ _ x => x.elim))
    · exact hsb.extBut b o (Nat.ne_of_lt (Nat.lt_trans (Heap.lt_size e) hlt)) (Heap.get?_push_of_some _ (Heap.get?_push_of_some _ e))
    · exact ⟨_, hsb.extBut _ _ (Nat.ne_of_lt hlt) (Heap.get?_push_of_some _ (Heap.get?_push_size _ rfl)), rfl, _, rfl⟩

def rep1 (x : Str) (p : Str × Str) : Str := Txt.join p.2 (Txt.split x p.1)
def reps : Str → List (Str × Str) → Str
  | x, [] => x
  | x, p :: ps => reps (rep1 x p) ps
def RepOk : Str → List (Str × Str) → Prop
  | _, [] => True
  | x, p :: ps => x.length ≤ 10000 ∧ (p.1.length == 0) = false ∧ p.2.length ≤ 1000 ∧ RepOk (rep1 x p) ps

inductive PairsAre : List Value → List (Str × Str) → Prop
  | nil : PairsAre [] []
  | cons (a b : Str) (t u : Tok) {vs ps} : PairsAre vs ps → PairsAre (.str a t :: .str b u :: vs) ((a, b) :: ps)
theorem PairsAre.length {vs : List Value} {ps : List (Str × Str)} (h : PairsAre vs ps) : vs.length = 2 * ps.length := by
  induction h with
  | nil => rfl
  | cons a b t u _ ih => simp only [List.length_cons]; omega

theorem split_sum (x y : Str) : ((Txt.split x y).map (·.length)).sum ≤ x.length := by
  have h := StrLaws.join_split x y
  have h2 := size_glued y (Txt.split x y)
  rw [StrLaws.glued_eq_join, h] at h2
  omega
theorem split_len (x y : Str) (hx : x.length ≤ 1000000) : (Txt.split x y).length ≤ x.length + 2 := by
  unfold Txt.split
  split
  · simp
  · split
    · simp
    · exact parts_size hx
theorem rep_fits {x y z : Str} (hx : x.length ≤ 10000) (hz : z.length ≤ 1000) : ((Txt.split x y).map (·.length)).sum + (Txt.split x y).length * z.length ≤ 16777216 := by
  have h1 := split_sum x y
  have h2 := split_len x y (by omega)
  have h3 : (Txt.split x y).length * z.length ≤ 10002 * 1000 := Nat.mul_le_mul (by omega) hz
  omega

/-- all but one object stays -/
def Upd (L : Addr) (s s' : Shared) : Prop := ∃ h' tk, s' = { s with heap := h', toks := tk } ∧ ∀ b o, b ≠ L → s.heap.get? b = some o → h'.get? b = some o
theorem Upd.kept {L : Addr} {s s' : Shared} (u : Upd L s s') : ∀ b o, b ≠ L → s.heap.get? b = some o → s'.heap.get? b = some o := by
  obtain ⟨h, t, rfl, k⟩ := u; exact k
theorem Upd.trans {L : Addr} {s₁ s₂ s₃ : Shared} (a : Upd L s₁ s₂) (b : Upd L s₂ s₃) : Upd L s₁ s₃ := by
  obtain ⟨h, t, rfl, k⟩ := a
  obtain ⟨h', t', rfl, k'⟩ := b
  exact ⟨h', t', rfl, fun b o n e => k' b o n (k b o n e)⟩
theorem Upd.of {L : Addr} {s₁ s₂ : Shared} (a : Keeps s₁ s₂) : Upd L s₁ s₂ := by
  obtain ⟨h, t, rfl, k⟩ := a
  exact ⟨h, t, rfl, fun b o _ e => k b o e⟩
theorem ne_list {h : Heap} {L D : Addr} {m : Str → Option Value} {items : Array Value} (hn : h.Ns L m) (hl : h.IsList D items) : D ≠ L := by
  rintro rfl
  obtain ⟨o, es, ep, h1, h2, _⟩ := hn
  obtain ⟨o', h1', _, n, h2'⟩ := hl
  rw [h1] at h1'; cases h1'
  rw [h2] at h2'; cases h2'
theorem ne_tup {h : Heap} {L D : Addr} {m : Str → Option Value} {items : Array Value} (hn : h.Ns L m) (hl : IsTup h D items) : D ≠ L := by
  rintro rfl
  obtain ⟨o, es, ep, h1, h2, _⟩ := hn
  obtain ⟨o', h1', _, n, h2'⟩ := hl
  rw [h1] at h1'; cases h1'
  rw [h2] at h2'; cases h2'
theorem fr_keeps {h₀ h h' : Heap} {L : Addr} {m : Str → Option Value} (F : Fr h₀ L h m) (k : ∀ b o, h.get? b = some o → h'.get? b = some o) : Fr h₀ L h' m :=
  ⟨F.ns.keeps k, fun b o e => k b o (F.keep b o e), F.above⟩

theorem stl {M : Model} {A : Around} {E : Value → Shared → Prop} {s : Shared} {env : Env} {h₀ : Heap} {m : Str → Option Value} {x : Str} {v : Value} {Q : Unit → Shared → Prop} (F : Fr h₀ env.locals s.heap m)
    (h : ∀ s', Fr h₀ env.locals s'.heap (fun y => if y = x then some v else m y) → Upd env.locals s s' → Q () s')
    (hl : env.kindOf x = some .local := by rfl) (hp : (env.scope.kind == .class || (env.scope.kind == .module && env.locals != env.globals)) = false := by rfl) :
    wpAny M A (storeName env x v) Q E s :=
  wpAny_storeName_local hl F.ns (fun h' hn hs => h _ (F.set hn hs) ⟨h', _, rfl, hs.extBut⟩) hp
end
end Mine
-- Q01b
namespace Mine
section
open PySem PySem.W PyProof.Rows
section
variable {w : World} {A : Around} {E : Value → Shared → Prop} {s : Shared} {mg mb : Str → Option Value}

theorem replace_spec {x : Str} {t : Tok} {vs : List Value} {ps : List (Str × Str)} {R : Result → Shared → Prop} (W : Wd (KK w) mg mb s.heap) (hroom : A.depth < recursionLimit)
    (hp : PairsAre vs ps) (hn : ps.length ≤ 2) (hok : RepOk x ps)
    (h : ∀ s' t', Keeps s s' → R (.ok (.ret (.str (reps x ps) t'))) s') :
    codeAny (model PP w) A (.call (.ref 38) ⟨.str x t :: vs, []⟩) R s := by
  have hsl : sizeLine = 16777216 := sizeLine_eq
  have hvl := hp.length
  refine call_star_ret hroom (W.X 38 _ rfl) rfl W.nolimit (codeRec_of W.X rfl) (vs := vs) (binds := fun T => [("text", .str x t), ("pairs", T)]) ?_ (fun T => locs rfl) (by omega) (fun L T s₁ F₀ hT hs₁ => ?_)
  · cases hp with
    | nil => rfl
    | cons a b t u h1 => cases h1 with
      | nil => rfl
      | cons a b t u h2 => cases h2 with
        | nil => rfl
        | cons a b t u h3 => simp only [List.length_cons] at hn; omega
  obtain ⟨hh₁, tk₁, rfl⟩ := hs₁
  refine wpAny_execs_cons (wpAny_While (codeAny_whileLoop (fun n s' => ∃ (ps' : List (Str × Str)) (vs' : List Value) (x' : Str) (t' : Tok) (T' : Addr) (m : Str → Option Value),
    n = ps'.length ∧ Fr s.heap L s'.heap m ∧ m "text" = some (.str x' t') ∧ m "pairs" = some (.ref T') ∧ IsTup s'.heap T' vs'.toArray ∧ PairsAre vs' ps' ∧ RepOk x' ps' ∧ ps'.length ≤ 2 ∧ reps x' ps' = reps x ps ∧
    ∃ h' tk', s' = { s with heap := h', toks := tk' }) ?_ ps.length ⟨ps, vs, x, t, T, _, rfl, F₀, rfl, rfl, hT, hp, hok, hn, rfl, _, _, rfl⟩))
  rintro n s' ⟨ps', vs', x', t', T', m, rfl, F', hm1, hm2, hT', hp', hok', hn', hre, h', tk', rfl⟩
  have hvl' := hp'.length
  refine wpAny_isTrue_value (ldl F'.ns hm2 (truthy_tuple hT' (by rw [List.size_toArray]; omega) ?_))
  cases hp' with
  | nil =>
    show if false = true then _ else _
    rw [if_neg Bool.false_ne_true]
    refine wpAny_execs_nil ?_
    refine wpAny_execs_cons (wpAny_Return_some (ldl F'.ns hm1 ?_))
    show R (.ok (.ret (.str x' t'))) _
    have e : x' = reps x ps := hre
    rw [e]
    exact h _ _ ⟨_, _, rfl, F'.keep⟩
  | cons a b ta tb hr =>
    rename_i vs₂ ps₂
    show if true = true then _ else _
    rw [if_pos rfl]
    obtain ⟨k1, k2, k3, k4⟩ := hok'
    refine wpAny_execs_cons (wpAny_Assign_Name ?_)
    refine Call_str1 F.slot_str_join F.type_str_join (tuple_item (ldl F'.ns hm2 (wpAny_Constant_int ⟨T', _, 1, _, _, rfl, rfl, hT', by rw [List.size_toArray]; omega, rfl, b, tb, rfl, ?_⟩)))
    refine Call_str1 F.slot_str_split F.type_str_split (ldl F'.ns hm1 ⟨x', t', rfl, tuple_item (ldl F'.ns hm2 (wpAny_Constant_int ⟨T', _, 0, _, _, rfl, rfl, hT', by rw [List.size_toArray]; omega, rfl, ?_⟩))⟩)
    refine split_call k2 (by omega) fun s₂ D items kp hD hi _ => ?_
    refine join_call hD hi (rep_fits k1 k3) fun s₃ t₃ kp₃ => ?_
    have kp' := kp_trans kp kp₃
    obtain ⟨h₃, tk₃, rfl, kk₃⟩ := kp'
    have F₃ : Fr s.heap L h₃ m := ⟨F'.ns.keeps kk₃, fun b o e => kk₃ b o (F'.keep b o e), F'.above⟩
    have hT₃ : IsTup h₃ T' _ := hT'.keeps kk₃
    refine stl F₃ fun s₄ F₄ u₄ => ?_
    have hT₄ : IsTup s₄.heap T' _ := let ⟨o, ho, r⟩ := hT₃; ⟨o, u₄.kept _ _ (ne_tup F₃.ns hT₃) ho, r⟩
    refine wpAny_execs_cons (wpAny_Assign_Name ?_)
    refine tuple_from (ldl F₄.ns hm2 (wpAny_Constant_int ⟨T', _, 2, _, rfl, rfl, hT₄, by decide, ?_, ?_, fun s₅ D₅ kp₅ hD₅ => ?_⟩))
    · simp
    · rw [List.size_toArray]; omega
    have F₅ := fr_keeps F₄ (kp_kept kp₅)
    refine stl F₅ fun s₆ F₆ u₆ => ?_
    have hT₆ : IsTup s₆.heap D₅ _ := let ⟨o, ho, r⟩ := hD₅; ⟨o, u₆.kept _ _ (ne_tup F₅.ns hD₅) ho, r⟩
    refine wpAny_execs_nil ?_
    refine ⟨ps₂.length, by simp, ps₂, vs₂, rep1 x' (a, b), t₃, D₅, _, rfl, F₆, rfl, rfl, ?_, hr, k4, by simp only [List.length_cons] at hn'; omega, hre, ?_⟩
    · simpa using hT₆
    · obtain ⟨h4, tk4, rfl, _⟩ := u₄
      obtain ⟨h5, tk5, rfl, _⟩ := kp₅
      obtain ⟨h6, tk6, rfl, _⟩ := u₆
      exact ⟨_, _, rfl⟩
end
end
end Mine
-- KitC
namespace Mine
section
open PySem PySem.W PyProof.Rows

section
variable {prog : Program} {w : World} {A : Around} {E : Value → Shared → Prop} {s : Shared} {env : Env}

/-- a for over anything that walks; J is what holds between the turns -/
theorem for_walk {target iter : Expr} {body : List Stmt} {pos : Pos} {Q : Flow → Shared → Prop}
    (h : wpAny (model prog w) A (eval iter env) (fun xv s₁ => wpAny (model prog w) A (pyIter xv) (fun it s₂ => ∃ (I : Addr) (fp wr : List Addr) (n : Nat) (P : Nat → Value → Prop) (St : Nat → Heap → Prop) (J : Nat → Shared → Prop),
      it = .ref I ∧ Walks prog w A I fp wr n P St ∧ St 0 s₂.heap ∧ J 0 s₂ ∧
      (∀ i s₃ h' tk, J i s₃ → (∀ b o, b ∉ wr → s₃.heap.get? b = some o → h'.get? b = some o) → J i { s₃ with heap := h', toks := tk }) ∧
      (∀ i v s₃ E', i < n → P i v → J i s₃ → St (i + 1) s₃.heap → wpAny (model prog w) A (assign target env v) (fun _ s₄ => wpAny (model prog w) A (execs body env) (fun f s₅ => match f with
        | .next | .cont => J (i + 1) s₅ ∧ St (i + 1) s₅.heap
        | .brk => Q .next s₅
        | .ret v => Q (.ret v) s₅) E' s₄) E' s₃) ∧
      (∀ s₃, J n s₃ → Q .next s₃)) E s₁) E s)
    (hs : ∀ x, foldedSetIterable iter env x = pure x := by intro _; rfl) (ht : ∀ it v, letOwnedTupleGo target it v = pure () := by intro _ _; rfl) :
    wpAny (model prog w) A (exec (.For target iter body [] pos) env) Q E s := by
  refine wpAny_For (wpAny_mono h (fun xv s₁ h₁ => wpAny_mono h₁ (fun it s₂ h₂ => ?_) fun _ _ e => e) fun _ _ e => e) hs
  obtain ⟨I, fp, wr, n, P, St, J, rfl, W, hst, hj, hstab, hstep, hend⟩ := h₂
  refine codeAny_forLoop (fun k s' => ∃ i, k = n + 1 - i ∧ i ≤ n ∧ J i s' ∧ St i s'.heap) ?_ (n + 1) ⟨0, rfl, Nat.zero_le _, hj, hst⟩ (ht _)
  rintro k s' ⟨i, rfl, hi, hJ, hS⟩
  by_cases hlt : i < n
  · refine W.item i s' _ _ hlt hS fun v h' tk hP hS' hk => ?_
    refine wpAny_mono (hstep i v _ _ hlt hP (hstab i s' h' tk hJ hk) hS') (fun _ s₄ h₄ => wpAny_mono h₄ (fun f s₅ h₅ => ?_) fun _ _ e => e) fun _ _ e => e
    cases f with
    | next => exact ⟨n + 1 - (i + 1), by omega, i + 1, rfl, hlt, h₅.1, h₅.2⟩
    | cont => exact ⟨n + 1 - (i + 1), by omega, i + 1, rfl, hlt, h₅.1, h₅.2⟩
    | brk => exact h₅
    | ret v => exact h₅
  · have e : i = n := by omega
    subst e
    refine W.done s' _ _ hS fun h' tk hk => wpAny_execs_nil ?_
    exact hend _ (hstab i s' h' tk hJ hk)

theorem pyIter_list {D : Addr} {items : Array Value} {Q : Value → Shared → Prop} (hl : s.heap.IsList D items)
    (h : ∀ s' I, Keeps s s' → s.heap.get? I = none → s'.heap.IsListIter I D 0 → s'.heap.IsList D items → D ≠ I → Q (.ref I) s') : wpAny (model prog w) A (pyIter (.ref D)) Q E s := by
  refine wpAny_pyIter_list hl ?_
  obtain ⟨o, ho, _⟩ := id hl
  exact h _ _ ⟨_, s.toks, rfl, fun b o e => Heap.get?_push_of_some _ e⟩ (Heap.get?_none_of_le (Nat.le_refl _)) ⟨_, Heap.get?_push_size _ rfl, rfl, rfl⟩ (hl.push _) (Nat.ne_of_lt (Heap.lt_size ho))

theorem assign_pair_val {x y : Str} {px py tpos : Pos} {k : Nat} {T : Addr} {a b : Value} {Q : Unit → Shared → Prop} (hh : A.handled = none) (hT : IsTup s.heap T #[a, b])
    (h : ∀ s₂, Keeps s s₂ → wpAny (model prog w) A (storeName env x a) (fun _ s₃ => wpAny (model prog w) A (storeName env y b) Q E s₃) E s₂) :
    wpAny (model prog w) A (assign (.Tuple [.Name x px, .Name y py] k tpos) env (.ref T)) Q E s := by
  have e1 : assign (.Tuple [.Name x px, .Name y py] k tpos) env (.ref T) = (do standAt tpos; unpack (.ref T) [(false, assign (.Name x px) env), (false, assign (.Name y py) env)]) := rfl
  rw [e1]
  unfold unpack
  refine wpAny_bind (wpAny_standAt (wpAny_bind (wpAny_holding ?_)))
  refine unpackItems_tuple (items := #[a, b]) hh hT fun h' he => ?_
  have e2 : assignInOrder (List.map (fun x => x.2) [(false, assign (.Name x px) env), (false, assign (.Name y py) env)]) #[a, b].toList = (do holding [b] (assign (.Name x px) env a); holding [] (assign (.Name y py) env b); pure ()) := rfl
  rw [e2]
  refine wpAny_bind (wpAny_holding (wpAny_assign_Name (wpAny_mono (h _ ⟨h', _, rfl, fun b o e => he b o (Nat.ne_of_lt (Heap.lt_size e)) e⟩) (fun _ s₃ h₃ => ?_) fun _ _ e => e)))
  exact wpAny_bind (wpAny_holding (wpAny_assign_Name (wpAny_mono h₃ (fun _ s₄ h₄ => wpAny_pure h₄) fun _ _ e => e)))

/-- two names of the frame at once; the tuple's items are stored first to last -/
theorem assign_pair {x y : Str} {px py tpos pos : Pos} {k : Nat} {value : Expr} {Q : Flow → Shared → Prop} (hh : A.handled = none)
    (h : wpAny (model prog w) A (eval value env) (fun v s₁ => ∃ T a b, v = .ref T ∧ IsTup s₁.heap T #[a, b] ∧ ∀ s₂, Keeps s₁ s₂ →
      wpAny (model prog w) A (storeName env x a) (fun _ s₃ => wpAny (model prog w) A (storeName env y b) (fun _ => Q .next) E s₃) E s₂) E s)
    (hs : swapsWithSole [.Tuple [.Name x px, .Name y py] k tpos] value pos.line env = pure false := by rfl)
    (hw : swappedStores [.Tuple [.Name x px, .Name y py] k tpos] value env = pure none := by rfl) :
    wpAny (model prog w) A (exec (.Assign [.Tuple [.Name x px, .Name y py] k tpos] value pos) env) Q E s := by
  have h' : wpAny (model prog w) A (eval value env) (fun v s₁ => wpAny (model prog w) A (assign (.Tuple [.Name x px, .Name y py] k tpos) env v) (fun _ => Q .next) E s₁) E s := by
    refine wpAny_mono h (fun v s₁ h₁ => ?_) fun _ _ e => e
    obtain ⟨T, a, b, rfl, hT, h₂⟩ := h₁
    exact assign_pair_val hh hT h₂
  exact Assign_Tuple h' hs hw

theorem bind_pair {x y : Str} {T : Addr} {a b : Value} {Q : Unit → Shared → Prop} (hh : A.handled = none) (hT : IsTup s.heap T #[a, b])
    (h : ∀ s₂, Keeps s s₂ → wpAny (model prog w) A (storeName env y b) (fun _ s₃ => wpAny (model prog w) A (storeName env x a) Q E s₃) E s₂) :
    wpAny (model prog w) A (unpackItems (.ref T) [x, y].length none) (fun items s₂ => wpAny (model prog w) A (assignInOrder ([x, y].reverse.map fun n => bindName env n) items.reverse) Q E s₂) E s := by
  refine unpackItems_tuple (items := #[a, b]) hh hT fun h' he => ?_
  have e2 : assignInOrder ([x, y].reverse.map fun n => bindName env n) #[a, b].toList.reverse = (do holding [a] (bindName env y b); holding [] (bindName env x a); pure ()) := rfl
  rw [e2]
  refine wpAny_bind (wpAny_holding (wpAny_bindName (wpAny_mono (h _ ⟨h', _, rfl, fun b o e => he b o (Nat.ne_of_lt (Heap.lt_size e)) e⟩) (fun _ s₃ h₃ => ?_) fun _ _ e => e)))
  exact wpAny_bind (wpAny_holding (wpAny_bindName (wpAny_mono h₃ (fun _ s₄ h₄ => wpAny_pure h₄) fun _ _ e => e)))

/-- two names of the frame at once, from two expressions; stored last to first -/
theorem assign_pair_swapped {x y : Str} {px py tpos pos : Pos} {k : Nat} {value : Expr} {Q : Flow → Shared → Prop} (hh : A.handled = none)
    (h : wpAny (model prog w) A (eval value env) (fun v s₁ => ∃ T a b, v = .ref T ∧ IsTup s₁.heap T #[a, b] ∧ ∀ s₂, Keeps s₁ s₂ →
      wpAny (model prog w) A (storeName env y b) (fun _ s₃ => wpAny (model prog w) A (storeName env x a) (fun _ => Q .next) E s₃) E s₂) E s)
    (hs : swapsWithSole [.Tuple [.Name x px, .Name y py] k tpos] value pos.line env = pure false := by rfl)
    (hw : swappedStores [.Tuple [.Name x px, .Name y py] k tpos] value env = pure (some [x, y]) := by rfl) :
    wpAny (model prog w) A (exec (.Assign [.Tuple [.Name x px, .Name y py] k tpos] value pos) env) Q E s := by
  have h' : wpAny (model prog w) A (eval value env) (fun v s₁ => wpAny (model prog w) A (unpackItems v [x, y].length none) (fun items s₂ =>
      wpAny (model prog w) A (assignInOrder ([x, y].reverse.map fun n => bindName env n) items.reverse) (fun _ => Q .next) E s₂) E s₁) E s := by
    refine wpAny_mono h (fun v s₁ h₁ => ?_) fun _ _ e => e
    obtain ⟨T, a, b, rfl, hT, h₂⟩ := h₁
    exact bind_pair hh hT h₂
  exact Assign_Tuple_swapped h' hs hw

theorem new_tuple {vs : List Value} {Q : Value → Shared → Prop} (hsz : vs.length ≤ sizeLine) (h : ∀ s' T, Keeps s s' → IsTup s'.heap T vs.toArray → Q (.ref T) s') : wpAny (model prog w) A (newTuple vs) Q E s :=
  wpAny_newObj_type (h _ _ ⟨_, s.toks, rfl, fun b o e => Heap.get?_push_of_some _ e⟩ ⟨_, Heap.get?_push_size _ rfl, rfl, _, rfl⟩) (by show vs.toArray.size ≤ sizeLine; rw [List.size_toArray]; exact hsz)
theorem new_list {vs : List Value} {Q : Value → Shared → Prop} (hsz : vs.length ≤ sizeLine) (h : ∀ s' T, Keeps s s' → s'.heap.IsList T vs.toArray → s.heap.get? T = none → Q (.ref T) s') : wpAny (model prog w) A (newList vs) Q E s :=
  wpAny_newObj_type (h _ _ ⟨_, s.toks, rfl, fun b o e => Heap.get?_push_of_some _ e⟩ ⟨_, Heap.get?_push_size _ rfl, rfl, _, rfl⟩ (Heap.get?_none_of_le (Nat.le_refl _))) (by show vs.toArray.size ≤ sizeLine; rw [List.size_toArray]; exact hsz)

/-- a call of one of the text's defs by its global name, three and four arguments -/
theorem Call_fn {K : Frag} {mg mb : Str → Option Value} {f : Str} {a : Addr} {o : Obj} {fd : FuncData} {fp pos : Pos} {e : Expr} {rest : List Expr} {Q : Value → Shared → Prop} (W : Wd K mg mb s.heap)
    (e1 : nsIn K mainGlobals f = some (some (.ref a))) (e2 : K.lookup a = some o) (e3 : o.data = .func fd)
    (h : wpAny (model prog w) A (spliced (backTo pos (starEach (e :: rest) env))) (fun vs s₁ => Keeps s s₁ ∧ codeAny (model prog w) A (.call (.ref a) ⟨vs, []⟩) (fun r s' => match r with | .ok (.ret v) => Q v s' | .ok _ => False | .error e => E e s') s₁) E s)
    (hg : env.globals = mainGlobals := by rfl) (hk : env.scope.kind = .function := by rfl) (hx : env.kindOf f = some .globalImplicit := by rfl) (hd : (f == ("__debug__" : Str)) = false := by decide)
    (he : starEach (e :: rest) env = (false, eval e env) :: starEach rest env := by rfl)
    (hc : eval (.Call (.Name f fp) (e :: rest) [] pos) env = (do callWith pos (← eval (.Name f fp) env) [] (backTo pos (starEach (e :: rest) env)) (backToKw pos (keywordEach [] env))) := by rfl) :
    wpAny (model prog w) A (eval (.Call (.Name f fp) (e :: rest) [] pos) env) Q E s := by
  refine Call_ (ldg W e1 ?_ hg hk hx hd) hc
  refine callWith_def (o := o) e3 (wpAny_mono h (fun vs s₁ h₁ => ⟨(W.keeps (kp_kept h₁.1)).X _ _ e2, wpAny_call h₁.2⟩) fun _ _ e => e) he

theorem str_item {value e : Expr} {pos : Pos} {Q : Value → Shared → Prop}
    (h : wpAny (model prog w) A (eval value env) (fun o s₁ => wpAny (model prog w) A (eval e env) (fun i s₂ => ∃ (x : Str) (t : Tok) (k : Int) (u : Tok) (c : Nat), o = .str x t ∧ i = .int k u ∧ (seqIndex? k x.length).bind (x.cps[·]?) = some c ∧ -1000 ≤ k ∧ k ≤ 1000 ∧
      ∀ s' t', Keeps s₂ s' → Q (.str ⟨#[c]⟩ t') s') E s₁) E s)
    (hs : noSlice e = true := by rfl) :
    wpAny (model prog w) A (eval (.Subscript value e pos) env) Q E s := by
  refine Subscript_ (wpAny_mono h (fun o s₁ h₁ => wpAny_mono h₁ (fun i s₂ h₂ => ?_) fun _ _ e => e) fun _ _ e => e)
  obtain ⟨x, t, k, u, c, rfl, rfl, hc, h1, h2, hQ⟩ := h₂
  refine tail_any (ops := [.str x t, .int k u]) (typeIs_str _ _ _) slot_str_getitem.lookup (getItem_str ?_ hc (hQ _ _ (kp_toks _ _))) (subs_plain hs _ _)
  have a1 : ¬ k < -(2 ^ 63 : Int) := by omega
  have a2 : ¬ k ≥ (2 ^ 63 : Int) := by omega
  rw [decide_eq_false a1, decide_eq_false a2]; rfl

theorem add_str_k {x y : Str} {t u : Tok} {Q : Value → Shared → Prop} (hsz : x.length + y.length ≤ 16777216) (h : ∀ s' t', Keeps s s' → Q (.str (x ++ y) t') s') : wpAny (model prog w) A (binaryOp .Add (.str x t) (.str y u)) Q E s :=
  SB.add (fun t' k => h _ t' (kp_toks s k)) (by rw [sizeLine_eq]; exact hsz)
theorem iadd_str_k {x y : Str} {t u : Tok} {Q : Value → Shared → Prop} (hsz : x.length + y.length ≤ 16777216) (h : ∀ s' t', Keeps s s' → Q (.str (x ++ y) t') s') : wpAny (model prog w) A (inplaceOp .Add (.str x t) (.str y u)) Q E s :=
  SB.iadd (fun t' k => h _ t' (kp_toks s k)) (by rw [sizeLine_eq]; exact hsz)
theorem mul_str_k {x : Str} {n : Int} {t u : Tok} {Q : Value → Shared → Prop} (hx : x.length ≤ 16) (h0 : -1000000 ≤ n) (h1 : n ≤ 1000000) (h : ∀ s' t', Keeps s s' → Q (.str (Txt.mul x n) t') s') : wpAny (model prog w) A (binaryOp .Mult (.str x t) (.int n u)) Q E s :=
  SB.mul (mulOk_of 16 1000000 hx (by omega) (by omega) (by omega) (by omega)) (fun t' k => h _ t' (kp_toks s k))
end
end
end Mine
-- PureD
namespace Mine
section
open PySem PyProof.Rows

def crlf (n : Nat) : List Nat := (List.replicate n [13, 10]).flatten
theorem crlf_zero : crlf 0 = [] := rfl
theorem crlf_succ (n : Nat) : crlf (n + 1) = 13 :: 10 :: crlf n := by simp [crlf, List.replicate_succ]
theorem crlf_add (a b : Nat) : crlf (a + b) = crlf a ++ crlf b := by
  induction a with
  | zero => simp [crlf]
  | succ a ih => rw [show a + 1 + b = (a + b) + 1 by omega, crlf_succ, crlf_succ, ih]; rfl
theorem crlf_len (n : Nat) : (crlf n).length = 2 * n := by
  induction n with
  | zero => rfl
  | succ n ih => rw [crlf_succ]; simp only [List.length_cons, ih]; omega

def endsN (t m g : Nat) : List Nat := crlf (if g = 0 then 0 else g * t + m)
def rowT (d : Nat) (r : List Nat) : List Nat := if r.head? = some 46 then List.replicate d 46 ++ r else r
def tl (e : Nat → List Nat) (ρ : List Nat → List Nat) : Nat → List (List Nat) → List Nat
  | n, [] => e (n - 1)
  | n, r :: rs => if r = [] then tl e ρ (n + 1) rs else e n ++ ρ r ++ tl e ρ 1 rs

theorem mul_list (x : Str) (n : Int) : (Txt.mul x n).cps.toList = (List.replicate n.toNat x.cps.toList).flatten := by
  unfold Txt.mul
  by_cases h1 : n < 1
  · rw [if_pos h1]
    have : n.toNat = 0 := by omega
    rw [this]; rfl
  · rw [if_neg h1]
    split
    · rename_i h
      simp only [Bool.or_eq_true, beq_iff_eq] at h
      rcases h with h | h
      · subst h; simp
      · have : x.cps.toList = [] := by
          have : x.cps.size = 0 := h
          exact List.eq_nil_of_length_eq_zero (by simpa using this)
        rw [this]; simp
    · have key : ∀ (k : Nat) (acc : Array Nat), ((List.replicate k x.cps).foldl (· ++ ·) acc).toList = acc.toList ++ (List.replicate k x.cps.toList).flatten := by
        intro k
        induction k with
        | zero => intro acc; simp
        | succ k ih => intro acc; rw [List.replicate_succ, List.foldl_cons, ih]; simp [List.replicate_succ]
      rw [key]; simp
end
end Mine
-- Q01c
namespace Mine
section
open PySem PySem.W PyProof.Rows
section
variable {w : World} {A : Around} {E : Value → Shared → Prop} {s : Shared} {mg mb : Str → Option Value}

theorem ends_spec {g : Int} {t m : Nat} {tg tt tm : Tok} {R : Result → Shared → Prop} (W : Wd (KK w) mg mb s.heap) (hroom : A.depth < recursionLimit) (h1 : -1 ≤ g) (h2 : g ≤ 1000) (h3 : t ≤ 1000) (h4 : m ≤ 1000)
    (h : ∀ s' t', Keeps s s' → R (.ok (.ret (.str ⟨(endsN t m g.toNat).toArray⟩ t'))) s') :
    codeAny (model PP w) A (.call (.ref 62) ⟨[.int g tg, .int (t : Nat) tt, .int (m : Nat) tm], []⟩) R s := by
  refine call_plain_ret hroom (W.X 62 _ rfl) rfl W.nolimit (codeRec_of W.X rfl) (binds := [("gap", .int g tg), ("times", .int (t : Nat) tt), ("more", .int (m : Nat) tm)]) rfl (locs rfl) (fun h₁ F₀ => ?_)
  have e2 : (Str.ofString "\x0d\n").cps.toList = [13, 10] := by decide +kernel
  have fin : ∀ (k : Int) (s' : Shared) (tk : Tok), k.toNat = (if g.toNat = 0 then 0 else g.toNat * t + m) → Keeps s s' → R (.ok (.ret (.str (Txt.mul (Str.ofString "\x0d\n") k) tk))) s' := by
    intro k s' tk hk hs
    have e : Txt.mul (Str.ofString "\x0d\n") k = ⟨(endsN t m g.toNat).toArray⟩ := by
      apply Str.ext'
      apply Array.toList_inj.mp
      rw [mul_list, e2, hk]; rfl
    rw [e]; exact h _ _ hs
  refine wpAny_execs_cons (wpAny_Return_some (wpAny_BinOp (wpAny_Constant_str (wpAny_IfExp (wpAny_isTrue_Compare1 (ldl F₀.ns rfl (wpAny_Constant_int (gt_int (wpAny_truthy_bool ?_)))))))))
  by_cases hg : 0 < g
  · rw [if_pos (decide_eq_true hg)]
    refine wpAny_BinOp (wpAny_BinOp (ldl F₀.ns rfl (ldl F₀.ns rfl (mul_int ?_ (IntMulOk.of_left (intBits_le_64 (by omega) (by omega)))))))
    refine ldl F₀.ns rfl (add_int ?_)
    have hgt : g * (t : Int) ≤ 1000 * 1000 := Int.mul_le_mul h2 (by omega) (by omega) (by omega)
    have hg0 : 0 ≤ g * (t : Int) := Int.mul_nonneg (by omega) (by omega)
    refine SB.mul (mulOk_of 2 2000000 (by decide) (by omega) (by omega) (by omega) (by omega)) fun t' k => ?_
    refine fin _ _ _ ?_ ⟨h₁, _, rfl, F₀.keep⟩
    rw [if_neg (by omega)]
    have e : g = (g.toNat : Int) := by omega
    rw [e]
    have : ((g.toNat : Int) * (t : Int) + (m : Int)) = ((g.toNat * t + m : Nat) : Int) := by push_cast; rfl
    rw [this]; rfl
  · rw [if_neg (by simpa using hg)]
    refine wpAny_Constant_int ?_
    refine SB.mul (mulOk_of 2 0 (by decide) (by omega) (by omega) (by omega) (by omega)) fun t' k => ?_
    refine fin 0 _ _ ?_ ⟨h₁, _, rfl, F₀.keep⟩
    rw [if_pos (by omega)]; rfl
end
end
end Mine
-- Q01d
namespace Mine
section
open PySem PySem.W PyProof.Rows
section
variable {w : World} {A : Around} {E : Value → Shared → Prop} {s : Shared} {mg mb : Str → Option Value}

def LL (ys : List Str) : List (List Nat) := ys.map (·.cps.toList)

theorem told_spec {D : Addr} {items : Array Value} {rows : List Str} {t m d : Nat} {tt tm td : Tok} {R : Result → Shared → Prop} (W : Wd (KK w) mg mb s.heap) (hroom : A.depth + 1 < recursionLimit) (hh : A.handled = none)
    (hD : s.heap.IsList D items) (hi : StrsAre items.toList rows) (hn : rows.length ≤ 900) (h3 : t ≤ 1000) (h4 : m ≤ 1000) (h5 : d ≤ 1000)
    (hfit : (tl (endsN t m) (rowT d) 0 (LL rows)).length ≤ 1000000)
    (h : ∀ s' t', Keeps s s' → R (.ok (.ret (.str ⟨(tl (endsN t m) (rowT d) 0 (LL rows)).toArray⟩ t'))) s') :
    codeAny (model PP w) A (.call (.ref 69) ⟨[.ref D, .int (t : Nat) tt, .int (m : Nat) tm, .int (d : Nat) td], []⟩) R s := by
  have hsl : sizeLine = 16777216 := sizeLine_eq
  refine call_plain_ret (by omega) (W.X 69 _ rfl) rfl W.nolimit (codeRec_of W.X rfl) (binds := [("rows", .ref D), ("times", .int (t : Nat) tt), ("more", .int (m : Nat) tm), ("dots", .int (d : Nat) td)]) rfl (locs rfl) (fun h₁ F₀ => ?_)
  refine wpAny_execs_cons (assign_pair (by exact hh) ?_)
  refine Tuple_ (args_cons (wpAny_Constant_str (args_cons (wpAny_UnaryOp (wpAny_Constant_int (neg_int (args_nil ?_)))))))
  refine new_tuple (by show 2 ≤ _; omega) fun s₁ T k₁ hT => ⟨T, _, _, rfl, hT, fun s₂ k₂ => ?_⟩
  have kk : ∀ b o, h₁.get? b = some o → s₂.heap.get? b = some o := fun b o e => kp_kept k₂ b o (kp_kept k₁ b o e)
  have F₂ := fr_keeps F₀ kk
  have hsame₂ : ∃ h' tk', s₂ = { s with heap := h', toks := tk' } := by
    obtain ⟨_, _, rfl, _⟩ := k₁; obtain ⟨_, _, rfl, _⟩ := k₂; exact ⟨_, _, rfl⟩
  refine stl F₂ fun s₃ F₃ u₃ => stl F₃ fun s₄ F₄ u₄ => ?_
  have hsame₄ : ∃ h' tk', s₄ = { s with heap := h', toks := tk' } := by
    obtain ⟨_, _, rfl⟩ := hsame₂; obtain ⟨_, _, rfl, _⟩ := u₃; obtain ⟨_, _, rfl, _⟩ := u₄; exact ⟨_, _, rfl⟩
  have hD₄ : s₄.heap.IsList D items := hD.at fun o e => F₄.keep _ _ e
  refine wpAny_execs_cons (for_walk (ldl F₄.ns rfl (pyIter_list hD₄ fun s₅ I k₅ hI hit hl hne => ?_)))
  have F₅ := fr_keeps F₄ (kp_kept k₅)
  have hIL : I ≠ s.heap.objs.size := by
    rintro rfl
    obtain ⟨o, _, _, ho, _⟩ := F₄.ns
    have ho' : s₄.heap.get? s.heap.objs.size = some o := ho
    rw [hI] at ho'; cases ho'
  have hI0 : s.heap.get? I = none := by
    cases q : s.heap.get? I with
    | none => rfl
    | some o => have := F₄.keep _ _ q; rw [hI] at this; cases this
  have hsame₅ : ∃ h' tk', s₅ = { s with heap := h', toks := tk' } := by
    obtain ⟨_, _, rfl⟩ := hsame₄; obtain ⟨_, _, rfl, _⟩ := k₅; exact ⟨_, _, rfl⟩
  refine ⟨I, _, _, _, _, _, fun i s' => ∃ (acc : Str) (n : Nat) (mm : Str → Option Value), Fr s.heap s.heap.objs.size s'.heap mm ∧ (∃ ta, mm "told" = some (.str acc ta)) ∧ (∃ tg, mm "gap" = some (.int ((n : Int) - 1) tg)) ∧
    mm "times" = some (.int (t : Nat) tt) ∧ mm "more" = some (.int (m : Nat) tm) ∧ mm "dots" = some (.int (d : Nat) td) ∧ n ≤ i + 1 ∧
    acc.cps.toList ++ tl (endsN t m) (rowT d) n (LL (rows.drop i)) = tl (endsN t m) (rowT d) 0 (LL rows) ∧ ∃ h' tk', s' = { s with heap := h', toks := tk' },
    rfl, Walks.list (by exact hh) I D hne items, ⟨hit, hl⟩, ?_, ?_, ?_, ?_⟩
  · exact ⟨_, 0, _, F₅, ⟨_, rfl⟩, ⟨_, rfl⟩, rfl, rfl, rfl, by omega, by rfl, hsame₅⟩
  · rintro i s' h' tk ⟨acc, n, mm, F, ⟨ta, a1⟩, ⟨tg, a2⟩, a3, a4, a5, a6, a7, hs1, hs2, rfl⟩ hk
    refine ⟨acc, n, mm, ⟨F.ns.at' fun o e => hk _ o (by simpa using Ne.symm hIL) e, fun b o e => hk b o ?_ (F.keep b o e), F.above⟩, ⟨ta, a1⟩, ⟨tg, a2⟩, a3, a4, a5, a6, a7, _, _, rfl⟩
    intro hb
    have hb' : b = I := by simpa using hb
    rw [hb', hI0] at e; cases e
  · rintro i v s' E' hi' hv ⟨acc, n, mm, F, ⟨ta, a1⟩, ⟨tg, a2⟩, a3, a4, a5, a6, a7, hs1, hs2, rfl⟩ ⟨hit', hl'⟩
    obtain ⟨y, ty, rfl, hy⟩ := hi.item i v (by simpa using hv)
    have hdr : rows.drop i = y :: rows.drop (i + 1) := by
      have hlt : i < rows.length := (List.getElem?_eq_some_iff.mp hy).1
      rw [List.drop_eq_getElem_cons hlt]
      congr 1
      exact (List.getElem?_eq_some_iff.mp hy).2
    have hlen : i < rows.length := (List.getElem?_eq_some_iff.mp hy).1
    refine wpAny_assign_Name (stl F fun s₆ F₆ u₆ => ?_)
    refine wpAny_execs_cons (wpAny_AugAssign_Name (wpAny_loadName_local rfl rfl F₆.ns a2 (wpAny_Constant_int (iadd_int (stl F₆ fun s₇ F₇ u₇ => ?_)))))
    refine wpAny_execs_cons (wpAny_If (wpAny_isTrue_Compare1 (ldl F₇.ns rfl (wpAny_Constant_str (ne_str (wpAny_truthy_bool ?_))))))
    have hyn : (y != Str.ofString "") = true ↔ y.cps.toList ≠ [] := by
      have e0 : (Str.ofString "").cps.toList = [] := by decide +kernel
      rw [bne_iff_ne]
      constructor
      · intro hne q
        exact hne (Str.ext' (Array.toList_inj.mp (q.trans e0.symm)))
      · intro hne q
        exact hne (by rw [q, e0])
    have hlow : LL (rows.drop i) = y.cps.toList :: LL (rows.drop (i + 1)) := by rw [hdr]; rfl
    rw [hlow] at a7
    by_cases hy0 : y.cps.toList = []
    · rw [if_neg (fun q => hyn.mp q hy0)]
      refine wpAny_execs_nil (wpAny_execs_nil ?_)
      have uu : Upd s.heap.objs.size { s with heap := hs1, toks := hs2 } { s₇ with toks := s₇.toks + 1 } := (u₆.trans u₇).trans (Upd.of (kp_toks s₇ _))
      refine ⟨⟨acc, n + 1, _, F₇, ⟨ta, a1⟩, ⟨s₆.toks + 1, ?_⟩, a3, a4, a5, by omega, ?_, ?_⟩, hit'.at fun o e => uu.kept _ o hIL e, hl'.at fun o e => uu.kept _ o (ne_list F.ns hl') e⟩
      · show some _ = some _
        congr 2
        push_cast; omega
      · rw [tl, if_pos hy0] at a7; exact a7
      · obtain ⟨_, _, e, _⟩ := uu; exact ⟨_, _, e⟩
    · rw [if_pos (hyn.mpr hy0)]
      rw [tl, if_neg hy0] at a7
      have hlenAll : acc.length + ((endsN t m n).length + (rowT d y.cps.toList).length) ≤ 1000000 := by
        have h0 := congrArg List.length a7
        simp only [List.length_append] at h0
        have e : acc.cps.toList.length = acc.length := by simp [Str.length]
        omega
      have W₇ : Wd (KK w) mg mb s₇.heap := W.keeps F₇.keep
      refine wpAny_execs_cons (wpAny_AugAssign_Name ?_)
      refine wpAny_loadName_local rfl rfl F₇.ns (by exact a1) ?_
      refine wpAny_BinOp (Call_fn W₇ rfl rfl rfl ?_)
      refine args_cons (ldl F₇.ns (by rfl) ?_)
      refine args_cons (ldl F₇.ns (by exact a3) ?_)
      refine args_cons (ldl F₇.ns (by exact a4) (args_nil ⟨kp_toks s₇ _, ?_⟩))
      refine ends_spec W₇ (by exact hroom) (by omega) (by omega) h3 h4 fun s₈ t₈ k₈ => ?_
      have eg : ((n : Int) - 1 + 1).toNat = n := by omega
      rw [eg]
      have F₈ := fr_keeps F₇ (kp_kept k₈)
      have u₈ : Upd s.heap.objs.size { s with heap := hs1, toks := hs2 } s₈ := ((u₆.trans u₇).trans (Upd.of (kp_toks s₇ _))).trans (Upd.of k₈)
      have hc : ∃ c rest, y.cps.toList = c :: rest := by
        cases q : y.cps.toList with
        | nil => exact absurd q hy0
        | cons c rest => exact ⟨c, rest, rfl⟩
      obtain ⟨c, rest, hc⟩ := hc
      have hylen : 0 < y.length := by
        have e : y.cps.toList.length = y.length := by simp [Str.length]
        rw [← e, hc]; simp
      have hc0 : (seqIndex? 0 y.length).bind (y.cps[·]?) = some c := by
        have e : y.cps[0]? = some c := by rw [← Array.getElem?_toList, hc]; rfl
        unfold seqIndex?
        simp [hylen, e]
      have hye : y.cps.toList.length = y.length := by simp [Str.length]
      refine wpAny_mono (Q := fun v sz => ∃ z tz, v = .str z tz ∧ z.cps.toList = rowT d y.cps.toList ∧ Keeps s₈ sz) ?_ (fun v sz hv => ?_) (fun _ _ e => e)
      · refine wpAny_IfExp (wpAny_isTrue_Compare1 (str_item (ldl F₈.ns (by rfl) (wpAny_Constant_int ⟨y, ty, 0, _, c, rfl, rfl, hc0, by omega, by omega, fun s₉ t₉ k₉ => wpAny_Constant_str (eq_str (wpAny_truthy_bool ?_))⟩))))
        have ed : (Str.ofString ".") = ⟨#[46]⟩ := by decide +kernel
        rw [ed]
        have F₉ := fr_keeps F₈ (kp_kept k₉)
        have k₉' : Keeps s₈ { s₉ with toks := s₉.toks + 1 } := kp_trans (kp_trans (kp_toks s₈ _) k₉) (kp_toks s₉ _)
        by_cases hdot : c = 46
        · subst hdot
          rw [if_pos (by simp)]
          refine wpAny_BinOp (wpAny_BinOp (wpAny_Constant_str ?_))
          refine ldl F₉.ns (by exact a5) ?_
          refine mul_str_k (by show 1 ≤ 16; decide) (by omega) (by omega) fun s₁₀ t₁₀ k₁₀ => ?_
          have F₁₀ := fr_keeps F₉ (kp_kept k₁₀)
          have hml : (Txt.mul (⟨#[46]⟩ : Str) (d : Int)).cps.toList = List.replicate d 46 := by
            rw [mul_list]
            show (List.replicate (d : Int).toNat [46]).flatten = _
            rw [Int.toNat_natCast]
            induction d with
            | zero => rfl
            | succ k ih => simp [List.replicate_succ] at *
          refine ldl F₁₀.ns (by rfl) (add_str_k ?_ fun s₁₁ t₁₁ k₁₁ => ⟨_, _, rfl, ?_, kp_trans (kp_trans (kp_trans k₉' (kp_toks _ _)) k₁₀) k₁₁⟩)
          · have e1 : (Txt.mul (⟨#[46]⟩ : Str) (d : Int)).length = d := by
              have := congrArg List.length hml
              simpa [Str.length] using this
            have : (rowT d y.cps.toList).length = d + y.length := by
              unfold rowT; rw [hc]; simp [← hye, hc]
            omega
          · rw [Str.cps_append, Array.toList_append, hml]
            unfold rowT; rw [hc]; simp
        · rw [if_neg (by simpa using hdot)]
          refine ldl F₉.ns (by rfl) ⟨_, _, rfl, ?_, k₉'⟩
          unfold rowT; rw [hc]; simp [hdot]
      · obtain ⟨z, tz, rfl, hz, kz⟩ := hv
        have hzl : z.length = (rowT d y.cps.toList).length := by rw [← hz]; simp [Str.length]
        have hel : (⟨(endsN t m n).toArray⟩ : Str).length = (endsN t m n).length := by simp [Str.length]
        refine add_str_k (by omega) fun s₁₂ t₁₂ k₁₂ => ?_
        have hcl : ((⟨(endsN t m n).toArray⟩ : Str) ++ z).length = (endsN t m n).length + (rowT d y.cps.toList).length := by
          rw [Str.length_append]; omega
        refine iadd_str_k (by omega) fun s₁₃ t₁₃ k₁₃ => ?_
        have kk := kp_trans (kp_trans kz k₁₂) k₁₃
        have F₁₃ := fr_keeps F₈ (kp_kept kk)
        have u₁₃ := u₈.trans (Upd.of kk)
        refine stl F₁₃ fun s₁₄ F₁₄ u₁₄ => ?_
        refine wpAny_execs_cons (wpAny_Assign_Name (wpAny_Constant_int (stl F₁₄ fun s₁₅ F₁₅ u₁₅ => ?_)))
        refine wpAny_execs_nil (wpAny_execs_nil ?_)
        have uu : Upd s.heap.objs.size { s with heap := hs1, toks := hs2 } s₁₅ := (u₁₃.trans u₁₄).trans ((Upd.of (kp_toks s₁₄ _)).trans u₁₅)
        refine ⟨⟨acc ++ (⟨(endsN t m n).toArray⟩ ++ z), 1, _, F₁₅, ⟨_, rfl⟩, ⟨s₁₄.toks, rfl⟩, a3, a4, a5, by omega, ?_, ?_⟩, hit'.at fun o e => uu.kept _ o hIL e, hl'.at fun o e => uu.kept _ o (ne_list F.ns hl') e⟩
        · rw [← a7, Str.cps_append, Str.cps_append, Array.toList_append, Array.toList_append, hz]
          simp only [List.append_assoc]
        · obtain ⟨_, _, e, _⟩ := uu; exact ⟨_, _, e⟩
  · rintro s' ⟨acc, n, mm, F, ⟨ta, a1⟩, ⟨tg, a2⟩, a3, a4, a5, a6, a7, hs1, hs2, rfl⟩
    have hil : items.size = rows.length := by
      have := hi.len_eq
      simpa using this
    have hdr : rows.drop items.size = [] := by rw [hil]; simp
    rw [hdr] at a7
    have a7' : acc.cps.toList ++ endsN t m (n - 1) = tl (endsN t m) (rowT d) 0 (LL rows) := a7
    have hlenAll : acc.length + (endsN t m (n - 1)).length ≤ 1000000 := by
      have h0 := congrArg List.length a7'
      simp only [List.length_append] at h0
      have e : acc.cps.toList.length = acc.length := by simp [Str.length]
      omega
    have W' : Wd (KK w) mg mb hs1 := W.keeps F.keep
    refine wpAny_execs_cons (wpAny_Return_some (wpAny_BinOp (ldl F.ns (by exact a1) ?_)))
    refine Call_fn W' rfl rfl rfl ?_
    refine args_cons (ldl F.ns (by exact a2) ?_)
    refine args_cons (ldl F.ns (by exact a3) ?_)
    refine args_cons (ldl F.ns (by exact a4) (args_nil ⟨kp_refl _, ?_⟩))
    refine ends_spec W' (by exact hroom) (by omega) (by omega) h3 h4 fun s₈ t₈ k₈ => ?_
    have eg : ((n : Int) - 1).toNat = n - 1 := by omega
    rw [eg]
    have hel : (⟨(endsN t m (n - 1)).toArray⟩ : Str).length = (endsN t m (n - 1)).length := by simp [Str.length]
    refine add_str_k (by omega) fun s₉ t₉ k₉ => ?_
    have e : acc ++ (⟨(endsN t m (n - 1)).toArray⟩ : Str) = ⟨(tl (endsN t m) (rowT d) 0 (LL rows)).toArray⟩ := by
      apply Str.ext'
      apply Array.toList_inj.mp
      rw [Str.cps_append, Array.toList_append, ← a7']
    rw [e]
    refine h _ _ ?_
    have kk := kp_trans k₈ k₉
    obtain ⟨h9, tk9, rfl, kk9⟩ := kk
    exact ⟨h9, tk9, rfl, fun b o e => kk9 b o (F.keep b o e)⟩
end
end
end Mine
-- KitE
namespace Mine
section
open PySem PySem.W PyProof.Rows

def Upds (S : List Addr) (s s' : Shared) : Prop := ∃ h' tk, s' = { s with heap := h', toks := tk } ∧ ∀ b o, b ∉ S → s.heap.get? b = some o → h'.get? b = some o
theorem Upds.kept {S : List Addr} {s s' : Shared} (u : Upds S s s') : ∀ b o, b ∉ S → s.heap.get? b = some o → s'.heap.get? b = some o := by
  obtain ⟨h, t, rfl, k⟩ := u; exact k
theorem Upds.trans {S : List Addr} {s₁ s₂ s₃ : Shared} (a : Upds S s₁ s₂) (b : Upds S s₂ s₃) : Upds S s₁ s₃ := by
  obtain ⟨h, t, rfl, k⟩ := a
  obtain ⟨h', t', rfl, k'⟩ := b
  exact ⟨h', t', rfl, fun b o n e => k' b o n (k b o n e)⟩
theorem Upds.mono {S S' : List Addr} {s₁ s₂ : Shared} (a : Upds S s₁ s₂) (h : ∀ b ∈ S, b ∈ S') : Upds S' s₁ s₂ := by
  obtain ⟨h', t, rfl, k⟩ := a
  exact ⟨h', t, rfl, fun b o n e => k b o (fun q => n (h b q)) e⟩
theorem Upds.of {S : List Addr} {s₁ s₂ : Shared} (a : Keeps s₁ s₂) : Upds S s₁ s₂ := by
  obtain ⟨h, t, rfl, k⟩ := a
  exact ⟨h, t, rfl, fun b o _ e => k b o e⟩
theorem Upds.refl (S : List Addr) (s : Shared) : Upds S s s := ⟨s.heap, s.toks, rfl, fun _ _ _ e => e⟩

theorem mem23 {a c d : Addr} : ∀ b ∈ [a, c], b ∈ [a, c, d] := fun b hb => by
  rcases List.mem_cons.mp hb with q | q
  · exact q ▸ .head _
  · have := List.mem_singleton.mp q
    exact this ▸ .tail _ (.head _)

def AccIs (D : Addr) (ys : List Str) (h : Heap) : Prop := ∃ items, h.IsList D items ∧ StrsAre items.toList ys
theorem AccIs.at {D : Addr} {ys : List Str} {h h' : Heap} (a : AccIs D ys h) (k : ∀ o, h.get? D = some o → h'.get? D = some o) : AccIs D ys h' := by
  obtain ⟨items, hl, hs⟩ := a
  exact ⟨items, hl.at k, hs⟩

theorem turn_mid {elt : Expr} {gens : List Comprehension} {scope : Scope} {pos : Pos} {depth : Nat} {it acc : Value} {env : Env} {x : Str} {px : Pos} {iter iter' target' : Expr} {ifs' : List Expr}
    (hg : gens[depth]? = some ⟨.Name x px, iter, [], 0⟩) (hg' : gens[depth + 1]? = some ⟨target', iter', ifs', 0⟩) :
    compTurn (.ListComp elt gens scope pos) depth it acc env = (standAt iter.pos >>= fun _ => pyNext it >>= fun r => match r with
      | none => pure (.done .next)
      | some v => letOwnedTupleGo (.Name x px) it v >>= fun _ => assign (.Name x px) env v >>= fun _ =>
        (eval iter' env >>= fun x => standAt iter'.pos >>= fun _ => foldedSetIterable iter' env x >>= fun x => holding [x] (pyIter x) >>= fun it => runOwn (.compStart (.ListComp elt gens scope pos) (depth + 1) it acc env) env >>= fun _ => pure ()) >>= fun _ => again (.compLoop (.ListComp elt gens scope pos) depth it acc env)) := by
  unfold compTurn
  simp only [hg, hg', bind_assoc, pure_bind]
  rfl
theorem turn_last {elt : Expr} {gens : List Comprehension} {scope : Scope} {pos : Pos} {depth : Nat} {it acc : Value} {env : Env} {x : Str} {px : Pos} {iter : Expr}
    (hg : gens[depth]? = some ⟨.Name x px, iter, [], 0⟩) (hg' : gens[depth + 1]? = none) :
    compTurn (.ListComp elt gens scope pos) depth it acc env = (standAt iter.pos >>= fun _ => pyNext it >>= fun r => match r with
      | none => pure (.done .next)
      | some v => letOwnedTupleGo (.Name x px) it v >>= fun _ => assign (.Name x px) env v >>= fun _ =>
        (eval elt env >>= fun x => call (.builtin "list.append") [acc, x] >>= fun _ => pure ()) >>= fun _ => again (.compLoop (.ListComp elt gens scope pos) depth it acc env)) := by
  unfold compTurn
  simp only [hg, hg']
  rfl

section
variable {prog : Program} {w : World} {A : Around} {E : Value → Shared → Prop} {s : Shared}

theorem comp_strs {elt : Expr} {gens : List Comprehension} {scope : Scope} {pos : Pos} {depth : Nat} {I ax D : Addr} {cenv : Env} {x : Str} {px p : Pos} {rest : Sem Unit} {act : Str → List Str} {items : Array Value} {zs ys₀ : List Str} {R : Result → Shared → Prop}
    (hh : A.handled = none) (hx : cenv.kindOf x = some .local) (hp : (cenv.scope.kind == .class || (cenv.scope.kind == .module && cenv.locals != cenv.globals)) = false)
    (ht : compTurn (.ListComp elt gens scope pos) depth (.ref I) (.ref D) cenv = (standAt p >>= fun _ => pyNext (.ref I) >>= fun r => match r with
      | none => pure (.done .next)
      | some v => letOwnedTupleGo (.Name x px) (.ref I) v >>= fun _ => assign (.Name x px) cenv v >>= fun _ => rest >>= fun _ => again (.compLoop (.ListComp elt gens scope pos) depth (.ref I) (.ref D) cenv)))
    (hz : StrsAre items.toList zs) (hDC : D ≠ cenv.locals) (hIC : I ≠ cenv.locals) (hID : I ≠ D) (haC : ax ≠ cenv.locals) (haD : ax ≠ D) (haI : ax ≠ I)
    (hB : (ys₀ ++ zs.flatMap act).length ≤ 1000000)
    (step : ∀ (y : Str) (ty : Tok) (ys : List Str) (s₁ : Shared) (m₁ : Str → Option Value) (E' : Value → Shared → Prop), y ∈ zs → Upds [cenv.locals, D, I] s s₁ → s₁.heap.Ns cenv.locals m₁ → m₁ x = some (.str y ty) → AccIs D ys s₁.heap → (ys ++ act y).length ≤ 1000000 →
      wpAny (model prog w) A rest (fun _ s₂ => Upds [cenv.locals, D] s₁ s₂ ∧ (∃ m₂, s₂.heap.Ns cenv.locals m₂) ∧ AccIs D (ys ++ act y) s₂.heap) E' s₁)
    (hit : s.heap.IsListIter I ax 0) (hl : s.heap.IsList ax items) (hn : ∃ m, s.heap.Ns cenv.locals m) (ha : AccIs D ys₀ s.heap)
    (hR : ∀ s', Upds [cenv.locals, D, I] s s' → (∃ m', s'.heap.Ns cenv.locals m') → AccIs D (ys₀ ++ zs.flatMap act) s'.heap → R (.ok .next) s') :
    codeAny (model prog w) A (.compLoop (.ListComp elt gens scope pos) depth (.ref I) (.ref D) cenv) R s := by
  have hil : items.size = zs.length := by have := hz.len_eq; simpa using this
  refine codeAny_loop rfl (fun n s' => ∃ i, n = zs.length + 1 - i ∧ i ≤ zs.length ∧ Upds [cenv.locals, D, I] s s' ∧ s'.heap.IsListIter I ax i ∧ s'.heap.IsList ax items ∧ (∃ m, s'.heap.Ns cenv.locals m) ∧ AccIs D (ys₀ ++ (zs.take i).flatMap act) s'.heap)
    ?_ (zs.length + 1) ⟨0, rfl, Nat.zero_le _, Upds.refl _ s, hit, hl, hn, by simpa using ha⟩
  rintro n s' ⟨i, rfl, hi, hu, hit', hl', ⟨m, hn'⟩, ha'⟩
  show wpAny _ A ((compTurn (.ListComp elt gens scope pos) depth (.ref I) (.ref D) cenv).onRaise (fun x => do noteFrame x cenv; theTreesLotGoes x)) _ _ s'
  refine wpAny_noted ?_
  rw [ht]
  refine wpAny_bind (wpAny_standAt (wpAny_bind ?_))
  cases hv : items[i]? with
  | none =>
    have hie : i = zs.length := by
      have : items.size ≤ i := by simpa using hv
      omega
    refine wpAny_pyNext_list_end hh hit' hl' hv fun h₁ he₁ => wpAny_pure ?_
    have u₁ : Upds [cenv.locals, D, I] s' { s' with heap := h₁ } := ⟨h₁, _, rfl, fun b o hb e => he₁ b o (fun q => hb (by simp [q])) e⟩
    refine hR _ (hu.trans u₁) ⟨m, hn'.extBut he₁ (Ne.symm hIC)⟩ ?_
    rw [hie, List.take_length] at ha'
    exact ha'.at fun o e => he₁ _ _ (Ne.symm hID) e
  | some v =>
    have hlt : i < items.size := (Array.getElem?_eq_some_iff.mp hv).1
    obtain ⟨y, ty, rfl, hy⟩ := hz.item i v (by simpa using hv)
    refine wpAny_pyNext_list_item hit' hl' hv fun h₁ hit₁ hs₁ => ?_
    refine wpAny_bind (wpAny_of_eq (a := ()) rfl ?_)
    refine wpAny_bind (wpAny_assign_Name (wpAny_storeName_local hx (hn'.sameBut hs₁ (Ne.symm hIC)) (fun h₂ hn₂ hs₂ => ?_) hp))
    have htk : zs.take (i + 1) = zs.take i ++ [y] := by rw [List.take_add_one, hy]; rfl
    have u₂ : Upds [cenv.locals, D, I] s' { s' with heap := h₂, toks := s'.toks + 1 } := ⟨h₂, _, rfl, fun b o hb e => hs₂.extBut b o (fun q => hb (by simp [q])) (hs₁.extBut b o (fun q => hb (by simp [q])) e)⟩
    have hbound : (ys₀ ++ (zs.take i).flatMap act ++ act y).length ≤ 1000000 := by
      have e1 : zs = zs.take (i + 1) ++ zs.drop (i + 1) := (List.take_append_drop _ _).symm
      have e2 : (ys₀ ++ zs.flatMap act).length = (ys₀ ++ (zs.take (i + 1)).flatMap act).length + ((zs.drop (i + 1)).flatMap act).length := by
        conv => lhs; rw [e1]
        rw [List.flatMap_append]; simp only [List.length_append]; omega
      rw [htk, List.flatMap_append] at e2
      simp only [List.length_append, List.flatMap_cons, List.flatMap_nil, List.append_nil] at *
      omega
    refine wpAny_bind (wpAny_mono (step y ty (ys₀ ++ (zs.take i).flatMap act) _ _ _ (List.mem_of_getElem? hy) (hu.trans u₂) hn₂ (by simp) (ha'.at fun o e => hs₂.extBut _ _ hDC (hs₁.extBut _ _ (Ne.symm hID) e)) hbound) (fun _ s₃ h₃ => ?_) fun _ _ e => e)
    obtain ⟨u₃, hn₃, ha₃⟩ := h₃
    refine wpAny_pure ⟨rfl, zs.length + 1 - (i + 1), by omega, i + 1, rfl, by omega, hu.trans (u₂.trans (u₃.mono mem23)), ?_, ?_, hn₃, ?_⟩
    · exact (hit₁.extBut hs₂.extBut hIC).at fun o e => u₃.kept _ _ (by simp [hIC, hID]) e
    · exact (((hl'.extBut hs₁.extBut haI).extBut hs₂.extBut haC)).at fun o e => u₃.kept _ _ (by simp [haC, haD]) e
    · rw [htk, List.flatMap_append]
      simpa [List.append_assoc] using ha₃

theorem compStart_at {elt : Expr} {gens : List Comprehension} {scope : Scope} {pos : Pos} {depth : Nat} {it acc : Value} {env : Env} {g : Comprehension} {R : Result → Shared → Prop} (hg : gens[depth]? = some g) (ha : g.is_async = 0)
    (h0 : codeAny (model prog w) A (.compLoop (.ListComp elt gens scope pos) depth it acc env) R s)
    (h : wpAny (model prog w) A (pyIter it) (fun it' s' => codeAny (model prog w) A (.compLoop (.ListComp elt gens scope pos) depth it' acc env) R s') (notedBy (model prog w) A env fun x s' => R (.error x) s') s) :
    codeAny (model prog w) A (.compStart (.ListComp elt gens scope pos) depth it acc env) R s := by
  refine codeAny_of_tree ?_
  show wpAny _ _ ((compStart (.ListComp elt gens scope pos) depth it acc env).onRaise (fun x => do noteFrame x env; standAt theWindowsPlace)) _ _ s
  refine wpAny_notedAt ?_
  unfold compStart
  have hc : clausesOf (.ListComp elt gens scope pos) = gens := rfl
  rw [hc, hg]
  simp only [Option.elim, ha, bne_self_eq_false, Bool.false_eq_true, if_false]
  refine wpAny_bind (wpAny_askSetting (wpAny_ite ?_))
  split
  · exact wpAny_pure (And.intro rfl h0)
  · exact wpAny_bind (wpAny_rule (wpAny_bind (wpAny_standAt (wpAny_bind (wpAny_mono h (fun it' s' h' => wpAny_pure (And.intro rfl h')) fun _ _ x => x)))))

/-- the inner clause of a nested comprehension over texts -/
theorem nest_rest {elt : Expr} {gens : List Comprehension} {scope : Scope} {pos ipos : Pos} {depth : Nat} {D : Addr} {cenv : Env} {g : Comprehension} {iter' : Expr} {zs ys : List Str} {act : Str → List Str}
    (hg : gens[depth]? = some g) (ha : g.is_async = 0) (hs : ∀ x, foldedSetIterable iter' cenv x = pure x) (hA : A.mark none = A)
    (hev : wpAny (model prog w) A (eval iter' cenv) (fun v s₂ => Keeps s s₂ ∧ ∃ ax items, v = .ref ax ∧ s₂.heap.IsList ax items ∧ StrsAre items.toList zs ∧ s.heap.get? ax = none) E s)
    (hn : ∃ m, s.heap.Ns cenv.locals m) (hacc : AccIs D ys s.heap)
    (inner : ∀ s₃ I ax items R, Keeps s s₃ → s.heap.get? I = none → s.heap.get? ax = none → StrsAre items.toList zs → s₃.heap.IsListIter I ax 0 → s₃.heap.IsList ax items → ax ≠ I → (∃ m, s₃.heap.Ns cenv.locals m) → AccIs D ys s₃.heap →
      (∀ s', Upds [cenv.locals, D, I] s₃ s' → (∃ m', s'.heap.Ns cenv.locals m') → AccIs D (ys ++ zs.flatMap act) s'.heap → R (.ok .next) s') →
      codeAny (model prog w) A (.compLoop (.ListComp elt gens scope pos) depth (.ref I) (.ref D) cenv) R s₃) :
    wpAny (model prog w) A (eval iter' cenv >>= fun x => standAt ipos >>= fun _ => foldedSetIterable iter' cenv x >>= fun x => holding [x] (pyIter x) >>= fun it => runOwn (.compStart (.ListComp elt gens scope pos) depth it (.ref D) cenv) cenv >>= fun _ => pure ())
      (fun _ s₂ => Upds [cenv.locals, D] s s₂ ∧ (∃ m₂, s₂.heap.Ns cenv.locals m₂) ∧ AccIs D (ys ++ zs.flatMap act) s₂.heap) E s := by
  refine wpAny_bind (wpAny_mono hev (fun v s₂ h₂ => ?_) fun _ _ e => e)
  obtain ⟨k₂, ax, items, rfl, hl, hz, hax⟩ := h₂
  refine wpAny_bind (wpAny_standAt (wpAny_bind (wpAny_of_eq (hs _) (wpAny_bind (wpAny_holding (pyIter_list hl fun s₃ I k₃ hI hit hl₃ hne => ?_))))))
  refine wpAny_bind (wpAny_runOwn ?_)
  rw [hA]
  have kk := kp_trans k₂ k₃
  have hI0 : s.heap.get? I = none := by
    cases q : s.heap.get? I with
    | none => rfl
    | some o => have := kp_kept k₂ _ _ q; rw [hI] at this; cases this
  obtain ⟨m, hn⟩ := hn
  have key : ∀ (R : Result → Shared → Prop), (∀ s', Upds [cenv.locals, D, I] s₃ s' → (∃ m', s'.heap.Ns cenv.locals m') → AccIs D (ys ++ zs.flatMap act) s'.heap → R (.ok .next) s') →
      codeAny (model prog w) A (.compLoop (.ListComp elt gens scope pos) depth (.ref I) (.ref D) cenv) R s₃ := fun R hR =>
    inner s₃ I ax items R kk hI0 hax hz hit hl₃ hne ⟨m, hn.keeps (kp_kept kk)⟩ (hacc.at fun o e => kp_kept kk _ _ e) hR
  have fin : ∀ s', Upds [cenv.locals, D, I] s₃ s' → (∃ m', s'.heap.Ns cenv.locals m') → AccIs D (ys ++ zs.flatMap act) s'.heap →
      wpAny (model prog w) A (pure ()) (fun _ s₂ => Upds [cenv.locals, D] s s₂ ∧ (∃ m₂, s₂.heap.Ns cenv.locals m₂) ∧ AccIs D (ys ++ zs.flatMap act) s₂.heap) E s' := by
    intro s' u hm hac
    refine wpAny_pure ⟨?_, hm, hac⟩
    obtain ⟨h3, t3, rfl, kk3⟩ := kk
    obtain ⟨h', t', rfl, k'⟩ := u
    refine ⟨h', t', rfl, fun b o hb e => k' b o (fun q => ?_) (kk3 b o e)⟩
    have hbI : b ≠ I := fun q => by rw [q, hI0] at e; cases e
    rcases List.mem_cons.mp q with q | q
    · exact hb (q ▸ .head _)
    · rcases List.mem_cons.mp q with q | q
      · exact hb (q ▸ .tail _ (.head _))
      · exact hbI (List.mem_singleton.mp q)
  exact compStart_at hg ha (key _ fin) (wpAny_pyIter_listiter hit (key _ fin))

/-- a name of the frame is given a comprehension's list of texts, however deep its clauses -/
theorem assign_comp {env : Env} {elt target iter : Expr} {ifs : List Expr} {gs : List Comprehension} {y : Str} {py pos spos : Pos} {scope : Scope} {Q : Flow → Shared → Prop} {out : List Str}
    (hsw : swapsWith (.ListComp elt (⟨target, iter, ifs, 0⟩ :: gs) scope pos) (some (.Name y py)) spos.line env = pure true)
    (hfree : ∀ z ∈ scope.names, z.2 ≠ .free) (hcell : ∀ z ∈ scope.names, z.2 ≠ .cell) (hkind : scope.kind = .function)
    (hnames : ∀ z ∈ scope.names, z.2 = .local → scope.names.lookup z.1 = some .local)
    (hy : env.kindOf y = some .local) (hp : (env.scope.kind == .class || (env.scope.kind == .module && env.locals != env.globals)) = false)
    (h : wpAny (model prog w) A (eval iter env) (fun xv s₁ => ∃ ax items m, xv = .ref ax ∧ s₁.heap.IsList ax items ∧ s₁.heap.Ns env.locals m ∧
      (∀ s₃ I D C R, Keeps s₁ s₃ → s₁.heap.get? I = none → s₁.heap.get? D = none → s₁.heap.get? C = none → I ≠ C → I ≠ D → D ≠ C → s₃.heap.IsListIter I ax 0 → s₃.heap.IsList ax items → (∃ m', s₃.heap.Ns C m') → AccIs D [] s₃.heap →
        (∀ s', Upds [C, D, I] s₃ s' → (∃ m', s'.heap.Ns C m') → AccIs D out s'.heap → R (.ok .next) s') →
        codeAny (model prog w) A (.compLoop (.ListComp elt (⟨target, iter, ifs, 0⟩ :: gs) scope pos) 0 (.ref I) (.ref D) (compEnv scope C env)) R s₃) ∧
      (∀ D s', s₁.heap.get? D = none → Upd env.locals s₁ s' → AccIs D out s'.heap → s'.heap.Ns env.locals (fun z => if z = y then some (.ref D) else m z) → Q .next s')) E s)
    (hs : ∀ x, foldedSetIterable iter env x = pure x := by intro _; rfl) :
    wpAny (model prog w) A (exec (.Assign [.Name y py] (.ListComp elt (⟨target, iter, ifs, 0⟩ :: gs) scope pos) spos) env) Q E s := by
  rw [exec_Assign_Name_used _ _ _ _ hsw]
  refine wpAny_bind (wpAny_standAt (wpAny_bind ?_))
  show wpAny _ A (do let _ ← comprehension (.ListComp elt (⟨target, iter, ifs, 0⟩ :: gs) scope pos) scope env _ (newList []) false (eval iter env) (some (assign (.Name y py) env))) _ _ s
  refine wpAny_bind (wpAny_mono (wpAny_comprehension_use (Q := fun _ s' => Q .next s') rfl hs hfree hkind hnames (wpAny_mono h (fun xv s₁ h₁ => ?_) fun _ _ e => e))
    (fun _ s' hq => wpAny_pure (wpAny_pure hq)) fun _ _ e => e)
  obtain ⟨ax, items, m, rfl, hl, hn, hloop, hQ⟩ := h₁
  refine wpAny_pyIter_list hl (wpAny_newObj_type (hd := by size_fits) (wpAny_newFunctionEnv hcell (by intro y hy; simp at hy) (fun h₁ hns₁ hsb₁ => ?_) hkind))
  dsimp only at hns₁ hsb₁ ⊢
  obtain ⟨ol, hol, hol'⟩ := id hl
  have hax : ax < s₁.heap.objs.size := Heap.lt_size hol
  generalize hH1 : s₁.heap.push { cls := .type "list_iterator", data := .fields #[.ref ax, .int 0 0] } = H1 at hns₁ hsb₁ ⊢
  have hD : H1.objs.size = s₁.heap.objs.size + 1 := by rw [← hH1, Heap.size_push]
  generalize hH2 : H1.push { cls := .type "list", dict := none, data := .seq ([] : List Value).toArray } = H2 at hns₁ hsb₁ ⊢
  have hC : H2.objs.size = s₁.heap.objs.size + 2 := by rw [← hH2, Heap.size_push, hD]
  have hDI : H1.objs.size ≠ s₁.heap.objs.size := by rw [hD]; exact Nat.succ_ne_self _
  have hDC : H1.objs.size ≠ H2.objs.size := by rw [hD, hC]; exact Nat.ne_of_lt (Nat.lt_succ_self _)
  have hIC : s₁.heap.objs.size ≠ H2.objs.size := by rw [hC]; exact Nat.ne_of_lt (Nat.lt_succ_of_lt (Nat.lt_succ_self _))
  have belowC : ∀ b, b < s₁.heap.objs.size → b ≠ H2.objs.size := fun b hb => by rw [hC]; exact Nat.ne_of_lt (Nat.lt_succ_of_lt (Nat.lt_succ_of_lt hb))
  have belowD : ∀ b, b < s₁.heap.objs.size → b ≠ H1.objs.size := fun b hb => by rw [hD]; exact Nat.ne_of_lt (Nat.lt_succ_of_lt hb)
  have old : ∀ b o, s₁.heap.get? b = some o → h₁.get? b = some o := fun b o e =>
    hsb₁.extBut b o (belowC b (Heap.lt_size e)) (Heap.get?_push_of_some _ (hH2 ▸ Heap.get?_push_of_some _ (hH1 ▸ Heap.get?_push_of_some _ e)))
  have hit : h₁.IsListIter s₁.heap.objs.size ax 0 :=
    ⟨_, hsb₁.extBut _ _ hIC (Heap.get?_push_of_some _ (hH2 ▸ Heap.get?_push_of_some _ (hH1 ▸ Heap.get?_push_size _ rfl))), rfl, rfl⟩
  have hacc : h₁.IsList H1.objs.size #[] := ⟨_, hsb₁.extBut _ _ hDC (Heap.get?_push_of_some _ (hH2 ▸ Heap.get?_push_size _ rfl)), rfl, _, rfl⟩
  have hl₁ : h₁.IsList ax items := ⟨ol, old _ _ hol, hol'⟩
  have fresh : ∀ a, s₁.heap.objs.size ≤ a → s₁.heap.get? a = none := fun a ha => Heap.get?_none_of_le ha
  have loop : ∀ s₂ : Shared, s₂ = { s₁ with heap := h₁, toks := s₁.toks + ([] : List (Str × Value)).length } → codeAny (model prog w) A (.compLoop (.ListComp elt (⟨target, iter, ifs, 0⟩ :: gs) scope pos) 0 (.ref s₁.heap.objs.size) (.ref H1.objs.size) (compEnv scope H2.objs.size env))
      (fun r s' => match r with
      | .ok _ => wpAny (model prog w) A (assign (.Name y py) env (.ref H1.objs.size)) (fun _ s'' => ∃ m, s''.heap.Ns H2.objs.size m ∧ ∀ h', Heap.SameBut H2.objs.size s''.heap h' → Q .next { s'' with heap := h' }) E s'
      | .error x => ∃ m, s'.heap.Ns H2.objs.size m ∧ ∀ h', Heap.SameBut H2.objs.size s'.heap h' → wpAny (model prog w) A (passOn "comprehension.variables-let-go" x (compEnv scope H2.objs.size env) : Sem Value) (fun _ s' => Q .next s') E { s' with heap := h' }) s₂ := by
    rintro s₂ rfl
    refine hloop { s₁ with heap := h₁, toks := s₁.toks + ([] : List (Str × Value)).length } _ _ _ _ ⟨h₁, _, rfl, old⟩ (fresh _ (Nat.le_refl _)) (fresh _ (by rw [hD]; exact Nat.le_succ _)) (fresh _ (by rw [hC]; exact Nat.le_add_right _ _)) hIC (Ne.symm hDI) hDC hit hl₁ ⟨_, hns₁⟩ ⟨#[], hacc, .nil⟩ ?_
    intro s' u hm' hac
    obtain ⟨h', t', rfl, k'⟩ := u
    obtain ⟨oL, eL1, eL2, hoL, rL⟩ := id hn
    have hLlt : env.locals < s₁.heap.objs.size := Heap.lt_size hoL
    have kept : ∀ b o, s₁.heap.get? b = some o → h'.get? b = some o := fun b o e => k' b o (fun q => by
      have hb := Heap.lt_size e
      rcases List.mem_cons.mp q with q | q
      · exact belowC b hb q
      · rcases List.mem_cons.mp q with q | q
        · exact belowD b hb q
        · exact absurd (List.mem_singleton.mp q) (Nat.ne_of_lt hb)) (old b o e)
    refine wpAny_assign_Name (wpAny_storeName_local hy (hn.keeps kept) (fun h₂ hn₂ hs₂ => ?_) hp)
    obtain ⟨m', hm'⟩ := hm'
    refine ⟨m', hm'.sameBut hs₂ (Ne.symm (belowC _ hLlt)), fun h₃ hs₃ => ?_⟩
    refine hQ H1.objs.size _ (fresh _ (by rw [hD]; exact Nat.le_succ _)) ⟨h₃, _, rfl, fun b o hb e => ?_⟩ ?_ (hn₂.sameBut hs₃ (belowC _ hLlt))
    · exact hs₃.extBut b o (belowC b (Heap.lt_size e)) (hs₂.extBut b o hb (kept b o e))
    · exact (hac.at fun o e => hs₂.extBut _ _ (Ne.symm (belowD _ hLlt)) e).at fun o e => hs₃.extBut _ _ hDC e
  exact compStart_at (by rfl) rfl (loop _ rfl) (wpAny_pyIter_listiter hit (loop _ rfl))
end
end
end Mine
-- KitD
namespace Mine
section
open PySem PySem.W PyProof.Rows

def constInts? : List Expr → Option (List Int)
  | [] => some []
  | .Constant (.int i) _ _ :: r => (constInts? r).map (i :: ·)
  | _ => none
def constStrs? : List Expr → Option (List Str)
  | [] => some []
  | .Constant (.str x) _ _ :: r => (constStrs? r).map (x :: ·)
  | _ => none

section
variable {prog : Program} {w : World} {A : Around} {E : Value → Shared → Prop} {env : Env}

theorem kp_step {s s' : Shared} {t : Nat} (k : Keeps { s with toks := t } s') : Keeps s s' := kp_trans (kp_toks s t) k

theorem ints_spliced {pos : Pos} : ∀ {es : List Expr} {ns : List Int} {s : Shared} {Q : List Value → Shared → Prop}, constInts? es = some ns → (∀ s' vs, Keeps s s' → IntsAre vs ns → Q vs s') →
    wpAny (model prog w) A (spliced (backTo pos (starEach es env))) Q E s
  | [], ns, s, Q, he, h => by
    cases he
    exact args_nil (h s [] (kp_refl s) .nil)
  | e :: r, ns, s, Q, he, h => by
    unfold constInts? at he
    split at he
    · rename_i heq; cases heq
    · rename_i i k p r' heq
      cases heq
      cases hr : constInts? r with
      | none => rw [hr] at he; cases he
      | some ns' =>
        rw [hr] at he
        cases he
        exact args_cons (wpAny_Constant_int (ints_spliced hr fun s' vs k hi => h s' _ (kp_step k) (.cons _ _ hi)))
    · cases he
theorem strs_spliced {pos : Pos} : ∀ {es : List Expr} {ns : List Str} {s : Shared} {Q : List Value → Shared → Prop}, constStrs? es = some ns → (∀ s' vs, Keeps s s' → StrsAre vs ns → Q vs s') →
    wpAny (model prog w) A (spliced (backTo pos (starEach es env))) Q E s
  | [], ns, s, Q, he, h => by
    cases he
    exact args_nil (h s [] (kp_refl s) .nil)
  | e :: r, ns, s, Q, he, h => by
    unfold constStrs? at he
    split at he
    · rename_i heq; cases heq
    · rename_i i k p r' heq
      cases heq
      cases hr : constStrs? r with
      | none => rw [hr] at he; cases he
      | some ns' =>
        rw [hr] at he
        cases he
        exact args_cons (wpAny_Constant_str (strs_spliced hr fun s' vs k hi => h s' _ (kp_step k) (.cons _ _ hi)))
    · cases he

theorem list_ints {s : Shared} {pos : Pos} {es : List Expr} {ns : List Int} {Q : Value → Shared → Prop} (he : constInts? es = some ns) (hn : ns.length ≤ 1000)
    (h : ∀ s' T items, Keeps s s' → s'.heap.IsList T items → IntsAre items.toList ns → s.heap.get? T = none → Q (.ref T) s') : wpAny (model prog w) A (eval (.List es pos) env) Q E s :=
  List_ (ints_spliced he fun s₁ vs k₁ hi => new_list (by rw [hi.length, sizeLine_eq]; omega) fun s₂ T k₂ hT hf => h s₂ T _ (kp_trans k₁ k₂) hT (by simpa using hi) (by
    cases q : s.heap.get? T with
    | none => rfl
    | some o => have := kp_kept k₁ _ _ q; rw [hf] at this; cases this))
theorem list_strs {s : Shared} {pos : Pos} {es : List Expr} {ns : List Str} {Q : Value → Shared → Prop} (he : constStrs? es = some ns) (hn : ns.length ≤ 1000)
    (h : ∀ s' T items, Keeps s s' → s'.heap.IsList T items → StrsAre items.toList ns → s.heap.get? T = none → Q (.ref T) s') : wpAny (model prog w) A (eval (.List es pos) env) Q E s :=
  List_ (strs_spliced he fun s₁ vs k₁ hi => new_list (by rw [hi.len_eq, sizeLine_eq]; omega) fun s₂ T k₂ hT hf => h s₂ T _ (kp_trans k₁ k₂) hT (by simpa using hi) (by
    cases q : s.heap.get? T with
    | none => rfl
    | some o => have := kp_kept k₁ _ _ q; rw [hf] at this; cases this))
end
end
end Mine
-- Q01e
namespace Mine
section
open PySem PySem.W PyProof.Rows

def fnOf? (p : Program) (n : Str) : Option (List Stmt × Scope) :=
  match p.main.body.find? (fun st => match st with | .FunctionDef m .. => m == n | _ => false) with
  | some (.FunctionDef _ _ b _ _ _ sc _ _ _) => some (b, sc)
  | _ => none
def lbody (p : Program) : List Stmt := ((fnOf? p "law").map (·.1)).getD []
def lscope (p : Program) : Scope := ((fnOf? p "law").map (·.2)).getD { kind := .module, names := [], isGenerator := false, isCoroutine := false }
def lst (p : Program) (i : Nat) : Stmt := (lbody p).getD i (.Pass ⟨0, 0, 0, 0⟩)
abbrev lenv (L fa : Addr) (cd : Value) : Env := envOfC "law" (lscope PP) L fa cd

theorem paired_ints' {F : Value → Value → Prop} {f : Int → Int} (hF : ∀ n t y, F (.int n t) y → ∃ u, y = .int (f n) u) {vs ys : List Value} (hp : Paired F vs ys) : ∀ {ns : List Int}, IntsAre vs ns → IntsAre ys (ns.map f) := by
  induction hp with
  | nil => intro ns h; cases h; exact .nil
  | cons h1 _ ih =>
    intro ns h
    cases h with
    | cons n t r =>
      obtain ⟨u, rfl⟩ := hF _ _ _ h1
      exact .cons _ u (ih r)
theorem paired_strs {F : Value → Value → Prop} {f : Int → Str} (hF : ∀ n t y, F (.int n t) y → ∃ u, y = .str (f n) u) {vs ys : List Value} (hp : Paired F vs ys) : ∀ {ns : List Int}, IntsAre vs ns → StrsAre ys (ns.map f) := by
  induction hp with
  | nil => intro ns h; cases h; exact .nil
  | cons h1 _ ih =>
    intro ns h
    cases h with
    | cons n t r =>
      obtain ⟨u, rfl⟩ := hF _ _ _ h1
      exact .cons _ u (ih r)
theorem IntsAre.item' : ∀ {vs : List Value} {ns : List Int}, IntsAre vs ns → ∀ v ∈ vs, ∃ n t, v = .int n t ∧ n ∈ ns
  | _, _, .cons n t r, v, hv => by
    rcases List.mem_cons.mp hv with q | q
    · exact ⟨n, t, q, .head _⟩
    · obtain ⟨n', t', e, hm⟩ := IntsAre.item' r v q
      exact ⟨n', t', e, .tail _ hm⟩
theorem IntsAre.take' : ∀ {vs : List Value} {ns : List Int}, IntsAre vs ns → ∀ k : Nat, IntsAre (vs.take k) (ns.take k)
  | _, _, _, 0 => .nil
  | _, _, .nil, _ + 1 => .nil
  | _, _, .cons n t r, k + 1 => .cons n t (IntsAre.take' r k)

/-- the law's frame and its one cell -/
structure LS (h₀ : Heap) (L : Addr) (m : Str → Option Value) (cv : Option Value) (h : Heap) : Prop where
  fr : Fr h₀ L h m
  cell : h.IsCell (L + 1) cv
theorem LS.keeps {h₀ h h' : Heap} {L : Addr} {m : Str → Option Value} {cv : Option Value} (S : LS h₀ L m cv h) (k : ∀ b o, h.get? b = some o → h'.get? b = some o) : LS h₀ L m cv h' :=
  ⟨fr_keeps S.fr k, S.cell.keeps k⟩
theorem LS.upd {h₀ h h' : Heap} {L : Addr} {m m' : Str → Option Value} {cv : Option Value} (S : LS h₀ L m cv h) (k : ∀ b o, b ≠ L → h.get? b = some o → h'.get? b = some o) (hn : h'.Ns L m') : LS h₀ L m' cv h' :=
  ⟨⟨hn, fun b o e => k b o (Nat.ne_of_lt (Nat.lt_of_lt_of_le (Heap.lt_size e) S.fr.above)) (S.fr.keep b o e), S.fr.above⟩,
   let ⟨o, ho, hd⟩ := S.cell; ⟨o, k _ o (Nat.succ_ne_self L) ho, hd⟩⟩
theorem LS.news {h₀ h : Heap} {L : Addr} {m : Str → Option Value} {cv : Option Value} (S : LS h₀ L m cv h) : ∃ o, o.data = .cell cv ∧ News h₀ L h [(L + 1, o)] := by
  obtain ⟨o, ho, hd⟩ := S.cell
  refine ⟨o, hd, fun p hp => ?_⟩
  rw [List.mem_singleton.mp hp]
  exact ⟨ho, Nat.succ_ne_self L, Heap.get?_none_of_le (Nat.le_succ_of_le S.fr.above)⟩

def dflt1 : List Int := [24576, 20484, 32769, 5, 6, 2, 0, 799]
def drawn1 (ns : List Int) : List Int := ((ns ++ dflt1).take 8).map (·.fmod 1000000)

section
variable {w : World} {A : Around} {E : Value → Shared → Prop} {s : Shared} {mg mb : Str → Option Value} {h₀ : Heap} {L fa : Addr} {cd : Value} {m : Str → Option Value} {cv : Option Value}

theorem law_s0 {D₀ : Addr} {vs : List Value} {ns : List Int} {Q : Flow → Shared → Prop} (S : LS h₀ L m cv s.heap) (hh : A.handled = none) (hm : m "script" = some (.ref D₀)) (hD : s.heap.IsList D₀ vs.toArray) (hi : IntsAre vs ns) (hn : ns.length ≤ 63)
    (h : ∀ D items s', LS h₀ L (fun z => if z = "drawn" then some (.ref D) else m z) cv s'.heap → s'.heap.IsList D items → IntsAre items.toList (drawn1 ns) → (∃ h' tk, s' = { s with heap := h', toks := tk }) → Q .next s') :
    wpAny (model PP w) A (exec (lst PP 0) (lenv L fa cd)) Q E s := by
  have F := S.fr
  have hsl : sizeLine = 16777216 := sizeLine_eq
  refine wpAny_Assign_ListComp_map (fun _ => true) (fun v y => ∃ n t u, v = .int n t ∧ y = .int (n.fmod 1000000) u) (by rfl) hh (by decide) (by decide) (by rfl) (by decide) (by rfl) (by rfl) (by rfl) ?_
  refine list_slice (wpAny_BinOp (ldl F.ns (by exact hm) (list_ints (ns := dflt1) (by rfl) (by decide) fun s₁ T its k₁ hT hiT _ => ?_)))
  have S₁ := S.keeps (kp_kept k₁)
  have hD₁ : s₁.heap.IsList D₀ vs.toArray := hD.at fun o e => kp_kept k₁ _ _ e
  have hvl : vs.length = ns.length := hi.length
  have hil : its.toList.length = 8 := hiT.length
  obtain ⟨oc, hoc, N₁⟩ := S₁.news
  refine add_lists S₁.fr N₁ hD₁ (ws := its.toList) (by simpa using hT) (fun h₂ F₂ N₂ => ?_) (by omega)
  have hl₂ : h₂.IsList s₁.heap.objs.size (vs ++ its.toList).toArray := ⟨_, (N₂ _ (.head _)).1, rfl, _, rfl⟩
  have S₂ : LS h₀ L m cv h₂ := ⟨F₂, oc, (N₂ _ (.tail _ (.head _))).1, hoc⟩
  rw [evalPart_none]
  refine wpAny_pure ?_
  rw [evalPart_some]
  refine wpAny_Constant_int ⟨_, _, none, some 8, rfl, hl₂, ?_, .none, .int _ _, fun s₃ D₃ k₃ hl₃ _ => ?_⟩
  · rw [List.size_toArray, List.length_append]; omega
  have S₃ := S₂.keeps (kp_kept k₃)
  have hpick : slicePick (vs ++ its.toList).toArray none (some 8) none = ((vs ++ its.toList).take 8).toArray := by
    have := slicePick_upto' (vs ++ its.toList).toArray 8
    simpa using this
  rw [hpick] at hl₃
  have hints : IntsAre ((vs ++ its.toList).take 8) ((ns ++ dflt1).take 8) := IntsAre.take' (hi.append hiT) 8
  have hsame : ∃ h' tk, s₃ = { s with heap := h', toks := tk } := by
    obtain ⟨_, _, rfl, _⟩ := k₁; obtain ⟨_, _, rfl, _⟩ := k₃; exact ⟨_, _, rfl⟩
  refine ⟨D₃, _, m, rfl, hl₃, ?_, S₃.fr.ns, ?_, ?_, ?_⟩
  · rw [List.size_toArray, List.length_take]; omega
  · intro C v s₄ m₄ E' hv hC hx hk
    exact wpAny_tests_nil ⟨rfl, kp_refl s₄⟩
  · intro C v s₄ m₄ E' hv _ hC hx hk
    obtain ⟨n, t, rfl, _⟩ := IntsAre.item' hints v (by simpa using hv)
    refine wpAny_BinOp (ldl hC hx (wpAny_BinOp (wpAny_Constant_int (wpAny_Constant_int (pow_int_small (by omega) (by omega) (by decide) ?_)))))
    refine mod_int' (by decide) ⟨⟨n, t, _, rfl, by rfl⟩, kp_trans (kp_trans (kp_trans (kp_toks _ _) (kp_toks _ _)) (kp_toks _ _)) (kp_toks _ _)⟩
  · intro D h' tk ys hD' hlD hP hns hk
    refine h D ys _ (S₃.upd (fun b o hb e => hk b o hb e) hns) hlD ?_ ?_
    · refine paired_ints' (f := fun n => n.fmod 1000000) ?_ hP ?_
      · rintro n t y ⟨n', t', u, e1, e2⟩
        cases e1; exact ⟨u, e2⟩
      · rw [List.filter_eq_self.mpr (fun _ _ => rfl)]; exact hints
    · obtain ⟨_, _, rfl⟩ := hsame; exact ⟨_, _, rfl⟩
end
end
end Mine
-- Q01f
namespace Mine
section
open PySem PySem.W PyProof.Rows

theorem boot_chr : bootBuiltins "chr" = some (.builtin "chr") := by kernel_rfl
theorem boot_len : bootBuiltins "len" = some (.builtin "len") := by kernel_rfl
theorem boot_range : bootBuiltins "range" = some (.type "range") := by kernel_rfl

section
variable {prog : Program} {w : World} {A : Around} {E : Value → Shared → Prop} {s : Shared} {env : Env}
theorem args_str {x : Str} {k : Nat} {p pos : Pos} {rest : List Expr} {Q : List Value → Shared → Prop} (h : ∀ s' t, Keeps s s' → wpAny (model prog w) A (spliced (backTo pos (starEach rest env))) (fun vs s₂ => Q (.str x t :: vs) s₂) E s') :
    wpAny (model prog w) A (spliced (backTo pos (starEach (.Constant (.str x) k p :: rest) env))) Q E s :=
  args_cons (wpAny_Constant_str (h _ _ (kp_toks s _)))
/-- a built-in of one argument, by its name -/
theorem Call_b1 {K : Frag} {mg mb : Str → Option Value} {f : Str} {id : String} {fp pos : Pos} {e : Expr} {Q : Value → Shared → Prop} (W : Wd K mg mb s.heap) (e1 : nsIn K mainGlobals f = some none) (hv : bootBuiltins f = some (.builtin id)) (hn : f ≠ "__name__")
    (h : wpAny (model prog w) A (eval e env) (fun v s₁ => wpAny (model prog w) A (call (.builtin id) [v]) Q E s₁) E s)
    (hg : env.globals = mainGlobals := by rfl) (hb : env.builtins = builtinsNs := by rfl) (hk : env.scope.kind = .function := by rfl) (hx : env.kindOf f = some .globalImplicit := by rfl) (hd : (f == ("__debug__" : Str)) = false := by decide)
    (hs : starEach [e] env = [(false, eval e env)] := by rfl) :
    wpAny (model prog w) A (eval (.Call (.Name f fp) [e] [] pos) env) Q E s :=
  Call_name1 hs (ldb W e1 hv hn (PySem.callWith_builtin1 h) hg hb hk hx hd)
end

def pieceOf (n : Int) : Str :=
  ([Str.ofString ".", Str.ofString "\x0d", Str.ofString "\n", Str.ofString "\n.", Str.ofString "a", Str.ofString "\x0d\n", Str.ofString "..", ⟨#[((n.fdiv 8).fmod 55296).toNat]⟩] : List Str).getD (n.fmod 8).toNat Str.empty

section
variable {w : World} {A : Around} {E : Value → Shared → Prop} {s : Shared} {mg mb : Str → Option Value} {h₀ : Heap} {L fa : Addr} {cd : Value} {m : Str → Option Value} {cv : Option Value}

set_option maxHeartbeats 1000000 in
theorem law_s1 {D : Addr} {its : Array Value} {ns : List Int} {Q : Flow → Shared → Prop} (W : Wd (KK w) mg mb h₀) (S : LS h₀ L m cv s.heap) (hh : A.handled = none) (hm : m "drawn" = some (.ref D)) (hD : s.heap.IsList D its) (hi : IntsAre its.toList ns) (hn : ns.length ≤ 63)
    (hr : ∀ n ∈ ns, 0 ≤ n ∧ n < 1000000)
    (h : ∀ D' items s', LS h₀ L (fun z => if z = "pieces" then some (.ref D') else m z) cv s'.heap → s'.heap.IsList D' items → StrsAre items.toList (ns.map pieceOf) → s'.heap.IsList D its → (∃ h' tk, s' = { s with heap := h', toks := tk }) → Q .next s') :
    wpAny (model PP w) A (exec (lst PP 1) (lenv L fa cd)) Q E s := by
  have hsl : sizeLine = 16777216 := sizeLine_eq
  have hil : its.size = ns.length := by have := hi.length; simpa using this
  refine wpAny_Assign_ListComp_map (fun _ => true) (fun v y => ∃ n t u, v = .int n t ∧ y = .str (pieceOf n) u) (by kernel_rfl) hh (by decide) (by decide) (by rfl) (by decide) (by rfl) (by rfl) (by rfl) ?_
  refine ldl S.fr.ns (by exact hm) ⟨D, its, m, rfl, hD, by omega, S.fr.ns, ?_, ?_, ?_⟩
  · intro C v s₄ m₄ E' hv hC hx hk
    exact wpAny_tests_nil ⟨rfl, kp_refl s₄⟩
  · intro C v s₄ m₄ E' hv _ hC hx hk
    obtain ⟨n, t, rfl, hmem⟩ := IntsAre.item' hi v (by simpa using hv)
    obtain ⟨h1, h2⟩ := hr n hmem
    have W₄ : Wd (KK w) mg mb s₄.heap := W.keeps fun b o e => hk b o (S.fr.keep b o e)
    refine list_item ?_
    refine List_ ?_
    refine args_str fun s₅ t₅ k₅ => ?_
    refine args_str fun s₆ t₆ k₆ => ?_
    refine args_str fun s₇ t₇ k₇ => ?_
    refine args_str fun s₈ t₈ k₈ => ?_
    refine args_str fun s₉ t₉ k₉ => ?_
    refine args_str fun s₁₀ t₁₀ k₁₀ => ?_
    refine args_str fun s₁₁ t₁₁ k₁₁ => ?_
    have kk := kp_trans (kp_trans (kp_trans (kp_trans (kp_trans (kp_trans k₅ k₆) k₇) k₈) k₉) k₁₀) k₁₁
    have hC₁ := hC.keeps (kp_kept kk)
    have W₁ := W₄.keeps (kp_kept kk)
    have hd1 : 0 ≤ n.fdiv 8 := Int.fdiv_nonneg h1 (by omega)
    have hm1 : 0 ≤ (n.fdiv 8).fmod 55296 := Int.fmod_nonneg_of_pos _ (by omega)
    have hm2 : (n.fdiv 8).fmod 55296 < 55296 := Int.fmod_lt_of_pos _ (by omega)
    refine args_cons ?_
    refine Call_b1 W₁ (by rfl) boot_chr (by decide) ?_
    refine wpAny_BinOp ?_
    refine wpAny_BinOp ?_
    refine ldl hC₁ hx ?_
    refine wpAny_Constant_int ?_
    refine floordiv_int (by decide) ?_
    refine wpAny_Constant_int (mod_int' (by decide) (chr_of_range hm1 (by omega) (args_nil ?_)))
    refine new_list (by show 8 ≤ _; omega) fun s₁₂ T k₁₂ hT _ => ?_
    have k₁₂' : Keeps s₁₁ s₁₂ := kp_trans (kp_trans (kp_trans (kp_trans (kp_trans (kp_toks _ _) (kp_toks _ _)) (kp_toks _ _)) (kp_toks _ _)) (kp_toks _ _)) k₁₂
    have hC₂ := hC₁.keeps (kp_kept k₁₂')
    have hm3 : 0 ≤ n.fmod 8 := Int.fmod_nonneg_of_pos _ (by omega)
    have hm4 : n.fmod 8 < 8 := Int.fmod_lt_of_pos _ (by omega)
    refine wpAny_BinOp (ldl hC₂ hx (wpAny_Constant_int (mod_int' (by decide) ?_)))
    have hk8 : (n.fmod 8).toNat < 8 := by omega
    have hit : ∃ u, ([Value.str (Str.ofString ".") t₅, Value.str (Str.ofString "\x0d") t₆, Value.str (Str.ofString "\n") t₇, Value.str (Str.ofString "\n.") t₈, Value.str (Str.ofString "a") t₉, Value.str (Str.ofString "\x0d\n") t₁₀, Value.str (Str.ofString "..") t₁₁, Value.str ⟨#[((n.fdiv 8).fmod 55296).toNat]⟩ (s₁₁.toks + 1 + 1 + 1 + 1)] : List Value)[(n.fmod 8).toNat]? = some (.str (pieceOf n) u) := by
      unfold pieceOf
      rcases (by omega : (n.fmod 8).toNat = 0 ∨ (n.fmod 8).toNat = 1 ∨ (n.fmod 8).toNat = 2 ∨ (n.fmod 8).toNat = 3 ∨ (n.fmod 8).toNat = 4 ∨ (n.fmod 8).toNat = 5 ∨ (n.fmod 8).toNat = 6 ∨ (n.fmod 8).toNat = 7) with q | q | q | q | q | q | q | q <;> rw [q] <;> exact ⟨_, rfl⟩
    obtain ⟨u, hu⟩ := hit
    refine ⟨T, _, n.fmod 8, _, .str (pieceOf n) u, rfl, rfl, hT, by show 8 ≤ _; omega, hm3, ?_, ⟨n, t, u, rfl, rfl⟩, ?_⟩
    · rw [List.getElem?_toArray]; exact hu
    · exact kp_trans (kp_trans kk k₁₂') (kp_trans (kp_toks _ _) (kp_toks _ _))
  · intro D' h' tk ys hD' hlD hP hns hk
    refine h D' ys _ (S.upd (fun b o hb e => hk b o hb e) hns) hlD ?_ (hD.at fun o e => hk _ o (ne_list S.fr.ns hD) e) ⟨_, _, rfl⟩
    refine paired_strs (f := pieceOf) ?_ hP ?_
    · rintro n t y ⟨n', t', u, e1, e2⟩
      cases e1; exact ⟨u, e2⟩
    · rw [List.filter_eq_self.mpr (fun _ _ => rfl)]; exact hi
end
end
end Mine
-- Q01g
namespace Mine
section
open PySem PySem.W PyProof.Rows

section
variable {w : World} {A : Around} {E : Value → Shared → Prop} {s : Shared} {mg mb : Str → Option Value} {h₀ : Heap} {L fa : Addr} {cd : Value} {m : Str → Option Value} {cv : Option Value}

theorem stLS {M : Model} {x : Str} {v : Value} {Q : Unit → Shared → Prop} (S : LS h₀ L m cv s.heap)
    (h : ∀ s', LS h₀ L (fun y => if y = x then some v else m y) cv s'.heap → Upd L s s' → Q () s')
    (hl : (lenv L fa cd).kindOf x = some .local := by rfl) : wpAny M A (storeName (lenv L fa cd) x v) Q E s :=
  wpAny_storeName_local hl S.fr.ns (fun h' hn hs => h _ (S.upd hs.extBut hn) ⟨h', _, rfl, hs.extBut⟩) (by rfl)

theorem law_s2 {D : Addr} {its : Array Value} {ps : List Str} {Q : Flow → Shared → Prop} (S : LS h₀ L m cv s.heap) (hm : m "pieces" = some (.ref D)) (hD : s.heap.IsList D its) (hi : StrsAre its.toList ps) (hsum : (ps.map (·.length)).sum ≤ 1000)
    (h : ∀ t s', LS h₀ L (fun z => if z = "written" then some (.str ⟨(cat ps).toArray⟩ t) else m z) cv s'.heap → Upd L s s' → Q .next s') :
    wpAny (model PP w) A (exec (lst PP 2) (lenv L fa cd)) Q E s := by
  refine wpAny_Assign_Name ?_
  refine Call_str1 F.slot_str_join F.type_str_join ?_
  refine wpAny_Constant_str ⟨_, _, rfl, ?_⟩
  refine ldl S.fr.ns (by exact hm) ?_
  have e0 : (Str.ofString "").cps = #[] := by decide +kernel
  refine join_call hD hi (by
    have : (Str.ofString "").length = 0 := by decide +kernel
    rw [this]; omega) fun s₁ t₁ k₁ => ?_
  rw [txtJoin_empty _ e0]
  refine stLS (S.keeps (kp_kept k₁)) fun s₂ S₂ u₂ => ?_
  exact h _ _ S₂ ((Upd.of (kp_step k₁)).trans u₂)

def rowsS (x : Str) : List Str := (Txt.split x (Str.ofString "\x0d\n")).flatMap fun y => (Txt.split y (Str.ofString "\x0d")).flatMap fun z => (Txt.split z (Str.ofString "\n")).flatMap fun r => [r]

theorem law_s3 {x : Str} {t : Tok} {Q : Flow → Shared → Prop} (S : LS h₀ L m cv s.heap) (hh : A.handled = none) (hm : m "written" = some (.str x t)) (hx : x.length ≤ 1000) (hB : (rowsS x).length ≤ 1000000)
    (h : ∀ D s', LS h₀ L (fun z => if z = "rows" then some (.ref D) else m z) cv s'.heap → AccIs D (rowsS x) s'.heap → Upd L s s' → Q .next s') :
    wpAny (model PP w) A (exec (lst PP 3) (lenv L fa cd)) Q E s := by
  have hA : A.mark none = A := by
    obtain ⟨hd, d, fr, gs, u⟩ := A
    cases hh; rfl
  refine assign_comp (out := rowsS x) (by kernel_rfl) (by decide) (by decide) (by rfl) (by decide) (by rfl) (by rfl) ?_
  refine Call_str1 F.slot_str_split F.type_str_split ?_
  refine ldl S.fr.ns (by exact hm) ⟨x, t, rfl, ?_⟩
  refine wpAny_Constant_str ?_
  refine split_call (by decide +kernel) (by omega) fun s₁ D₁ items k₁ hD₁ hi₁ _ => ⟨D₁, items, m, rfl, hD₁, S.fr.ns.keeps (kp_kept k₁), ?_, ?_⟩
  · intro s₃ I D C R k₃ hI hD hC hIC hID hDC hit hl hn hacc hR
    have ex : ∀ {a b : Addr} {h : Heap} {o : Obj}, h.get? a = some o → h.get? b = none → a ≠ b := fun ha hb q => by rw [q, hb] at ha; cases ha
    obtain ⟨o₁, ho₁, _⟩ := id hD₁
    refine comp_strs (x := "line") (act := fun y => (Txt.split y (Str.ofString "\x0d")).flatMap fun z => (Txt.split z (Str.ofString "\n")).flatMap fun r => [r]) hh (by rfl) (by rfl) (turn_mid (by rfl) (by rfl)) hi₁ hDC hIC hID (ex ho₁ hC) (ex ho₁ hD) (ex ho₁ hI) (by exact hB) ?_ hit hl hn hacc (by exact hR)
    intro y ty ys s₄ m₄ E' hy hu hns hmx hac hbd
    have hyl : y.length ≤ 1000 := Nat.le_trans (part_short hy) hx
    refine nest_rest (act := fun z => (Txt.split z (Str.ofString "\n")).flatMap fun r => [r]) (zs := Txt.split y (Str.ofString "\x0d")) (by rfl) (by rfl) (fun _ => rfl) hA ?_ ⟨_, hns⟩ hac ?_
    · refine Call_str1 F.slot_str_split F.type_str_split ?_
      refine ldl hns hmx ⟨y, ty, rfl, ?_⟩
      refine wpAny_Constant_str ?_
      exact split_call (by decide +kernel) (by omega) fun s₅ D₅ items₅ k₅ hD₅ hi₅ hf₅ => ⟨kp_step k₅, D₅, items₅, rfl, hD₅, hi₅, hf₅⟩
    · intro s₅ I₁ ax₁ items₁ R₁ k₅ hI₁ hax₁ hz₁ hit₁ hl₁ hne₁ hn₁ hac₁ hR₁
      obtain ⟨oC, _, _, hoC, _⟩ := id hns
      obtain ⟨itD, ⟨oD, hoD, _⟩, _⟩ := id hac
      refine comp_strs (x := "part") (act := fun z => (Txt.split z (Str.ofString "\n")).flatMap fun r => [r]) hh (by rfl) (by rfl) (turn_mid (by rfl) (by rfl)) hz₁ hDC (Ne.symm (ex hoC hI₁)) (Ne.symm (ex hoD hI₁)) (Ne.symm (ex hoC hax₁)) (Ne.symm (ex hoD hax₁)) hne₁ hbd ?_ hit₁ hl₁ hn₁ hac₁ hR₁
      intro z tz ys₂ s₆ m₆ E₂ hz hu₂ hns₂ hmx₂ hac₂ hbd₂
      have hzl : z.length ≤ 1000 := Nat.le_trans (part_short hz) hyl
      refine nest_rest (act := fun r => [r]) (zs := Txt.split z (Str.ofString "\n")) (by rfl) (by rfl) (fun _ => rfl) hA ?_ ⟨_, hns₂⟩ hac₂ ?_
      · refine Call_str1 F.slot_str_split F.type_str_split ?_
        refine ldl hns₂ hmx₂ ⟨z, tz, rfl, ?_⟩
        refine wpAny_Constant_str ?_
        exact split_call (by decide +kernel) (by omega) fun s₇ D₇ items₇ k₇ hD₇ hi₇ hf₇ => ⟨kp_step k₇, D₇, items₇, rfl, hD₇, hi₇, hf₇⟩
      · intro s₇ I₂ ax₂ items₂ R₂ k₇ hI₂ hax₂ hz₂ hit₂ hl₂ hne₂ hn₂ hac₃ hR₂
        obtain ⟨oC₂, _, _, hoC₂, _⟩ := id hns₂
        obtain ⟨itD₂, ⟨oD₂, hoD₂, _⟩, _⟩ := id hac₂
        refine comp_strs (x := "row") (act := fun r => [r]) hh (by rfl) (by rfl) (turn_last (by rfl) (by rfl)) hz₂ hDC (Ne.symm (ex hoC₂ hI₂)) (Ne.symm (ex hoD₂ hI₂)) (Ne.symm (ex hoC₂ hax₂)) (Ne.symm (ex hoD₂ hax₂)) hne₂ hbd₂ ?_ hit₂ hl₂ hn₂ hac₃ hR₂
        intro r tr ys₃ s₈ m₈ E₃ hr hu₃ hns₃ hmx₃ hac₄ hbd₃
        refine wpAny_bind (ldl hns₃ hmx₃ ?_)
        obtain ⟨it₄, hl₄, hst₄⟩ := hac₄
        have hsz : it₄.size ≤ sizeLine := by
          have e1 := hst₄.len_eq
          rw [Array.length_toList] at e1
          rw [sizeLine_eq]
          simp only [List.length_append] at hbd₃
          omega
        refine wpAny_bind (wpAny_list_append hl₄ (fun h₉ hl₉ hs₉ => wpAny_pure ⟨⟨h₉, _, rfl, fun b o hb e => hs₉.extBut b o (fun q => hb (by rw [q]; exact .tail _ (.head _))) e⟩, ⟨m₈, hns₃.sameBut hs₉ (Ne.symm hDC)⟩, _, hl₉, ?_⟩) hsz)
        rw [Array.toList_push]
        exact hst₄.append' (.cons _ _ .nil)
  · intro D s' hD u hacc hns
    have S₁ := S.keeps (kp_kept k₁)
    exact h D s' (S₁.upd u.kept hns) hacc ((Upd.of (kp_step k₁)).trans u)
end
end
end Mine
-- Q01h
namespace Mine
section
open PySem PySem.W PyProof.Rows

section
variable {w : World} {A : Around} {E : Value → Shared → Prop} {s : Shared} {mg mb : Str → Option Value} {h₀ : Heap} {L fa : Addr} {cd : Value} {m : Str → Option Value} {cv : Option Value}

theorem law_s4 {x : Str} {t : Tok} {Q : Flow → Shared → Prop} (W : Wd (KK w) mg mb h₀) (S : LS h₀ L m cv s.heap) (hroom : A.depth < recursionLimit) (hm : m "written" = some (.str x t)) (hx : x.length ≤ 1000)
    (h : ∀ t' s', LS h₀ L (fun z => if z = "letter" then some (.str (quoted x) t') else m z) cv s'.heap → Upd L s s' → Q .next s') :
    wpAny (model PP w) A (exec (lst PP 4) (lenv L fa cd)) Q E s := by
  have W₁ : Wd (KK w) mg mb s.heap := W.keeps S.fr.keep
  refine wpAny_Assign_Name ?_
  refine Call_fn W₁ (by rfl) (by rfl) (by rfl) ?_
  refine args_cons ?_
  refine ldl S.fr.ns (by exact hm) (args_nil ⟨kp_refl s, ?_⟩)
  refine quote_spec W₁ hroom (by omega) fun s₂ t₂ k₂ => ?_
  exact stLS (S.keeps (kp_kept k₂)) fun s₃ S₃ u₃ => h _ _ S₃ ((Upd.of k₂).trans u₃)

theorem law_s5 {Q : Flow → Shared → Prop} (S : LS h₀ L m cv s.heap) (hh : A.handled = none)
    (h : ∀ t t' s', LS h₀ L (fun z => if z = "more" then some (.int ((0 : Nat) : Int) t') else if z = "times" then some (.int ((1 : Nat) : Int) t) else m z) cv s'.heap → Upd L s s' → Q .next s') :
    wpAny (model PP w) A (exec (lst PP 5) (lenv L fa cd)) Q E s := by
  refine assign_pair hh ?_
  refine Tuple_ ?_
  refine args_cons (wpAny_Constant_int ?_)
  refine args_cons (wpAny_Constant_int (args_nil ?_))
  refine new_tuple (by show 2 ≤ _; rw [sizeLine_eq]; omega) fun s₁ T k₁ hT => ⟨T, _, _, rfl, hT, fun s₂ k₂ => ?_⟩
  have kk : Keeps s s₂ := kp_trans (kp_step (kp_step k₁)) k₂
  refine stLS (S.keeps (kp_kept kk)) fun s₃ S₃ u₃ => ?_
  exact stLS S₃ fun s₄ S₄ u₄ => h _ _ _ S₄ (((Upd.of kk).trans u₃).trans u₄)

theorem law_s6 {D : Addr} {rows : List Str} {t mo : Nat} {tl' tt tm : Tok} {Q : Flow → Shared → Prop} (W : Wd (KK w) mg mb h₀) (S : LS h₀ L m cv s.heap) (hroom : A.depth + 1 < recursionLimit) (hh : A.handled = none)
    (hm1 : m "letter" = some (.str ⟨(tl (endsN t mo) (rowT 1) 0 (LL rows)).toArray⟩ tl')) (hm2 : m "rows" = some (.ref D)) (hm3 : m "times" = some (.int (t : Nat) tt)) (hm4 : m "more" = some (.int (mo : Nat) tm))
    (hD : AccIs D rows s.heap) (hn : rows.length ≤ 900) (h3 : t ≤ 1000) (h4 : mo ≤ 1000) (hfit : (tl (endsN t mo) (rowT 1) 0 (LL rows)).length ≤ 1000000)
    (h : ∀ s', Keeps s s' → Q .next s') :
    wpAny (model PP w) A (exec (lst PP 6) (lenv L fa cd)) Q E s := by
  have W₁ : Wd (KK w) mg mb s.heap := W.keeps S.fr.keep
  obtain ⟨items, hl, hi⟩ := hD
  refine wpAny_If ?_
  refine wpAny_isTrue_Compare1 ?_
  refine ldl S.fr.ns (by exact hm1) ?_
  refine Call_fn W₁ (by rfl) (by rfl) (by rfl) ?_
  refine args_cons (ldl S.fr.ns (by exact hm2) ?_)
  refine args_cons (ldl S.fr.ns (by exact hm3) ?_)
  refine args_cons (ldl S.fr.ns (by exact hm4) ?_)
  refine args_cons (wpAny_Constant_int (args_nil ⟨kp_toks s _, ?_⟩))
  refine told_spec (d := 1) W₁ hroom hh hl hi hn h3 h4 (by omega) hfit fun s₂ t₂ k₂ => ?_
  refine ne_str (wpAny_truthy_bool ?_)
  rw [bne_self_eq_false, if_neg Bool.false_ne_true]
  exact wpAny_execs_nil (h _ (kp_step k₂))
end
end
end Mine
-- Q01i
namespace Mine
section
open PySem PySem.W PyProof.Rows

def fbody (p : Program) : List Stmt := match lst p 7 with | .For _ _ b _ _ => b | _ => []
def ltn (p : Program) (i : Nat) : Stmt := (fbody p).getD i (.Pass ⟨0, 0, 0, 0⟩)

def firsts : List Str := [Str.ofString "", Str.ofString "\x0d", Str.ofString "\n"]
def seconds : List Str := [Str.ofString "\n", Str.ofString "\x0d", Str.ofString "\n\x0d", Str.ofString "\x0d\n"]
def firstOf (n : Int) : Str := firsts.getD ((n.fdiv 4096).fmod 3).toNat Str.empty
def secondOf (n : Int) : Str := seconds.getD ((n.fdiv 12288).fmod 4).toNat Str.empty

theorem ints_at : ∀ {vs : List Value} {ns : List Int}, IntsAre vs ns → ∀ {i : Nat} {n : Int}, ns[i]? = some n → ∃ t, vs[i]? = some (.int n t)
  | _, _, .cons n t r, 0, _, h => by cases h; exact ⟨t, rfl⟩
  | _, _, .cons n t r, i + 1, _, h => ints_at r h
theorem StrsAre.get' {vs : List Value} {ys : List Str} (h : StrsAre vs ys) {k : Nat} (hk : k < ys.length) : ∃ t, vs[k]? = some (.str (ys.getD k Str.empty) t) := by
  have e : ys[k]? = some (ys.getD k Str.empty) := by rw [List.getD_eq_getElem?_getD, List.getElem?_eq_getElem hk]; rfl
  exact h.at e

section
variable {w : World} {A : Around} {E : Value → Shared → Prop} {s : Shared} {mg mb : Str → Option Value} {h₀ : Heap} {L fa : Addr} {cd : Value} {m : Str → Option Value} {cv : Option Value}

theorem law_t0 {D : Addr} {its : Array Value} {ns : List Int} {i : Nat} {n : Int} {ti : Tok} {Q : Flow → Shared → Prop} (S : LS h₀ L m cv s.heap) (hm : m "drawn" = some (.ref D)) (hD : s.heap.IsList D its) (hi : IntsAre its.toList ns)
    (hm2 : m "turn" = some (.int (i : Nat) ti)) (hn : ns[i]? = some n) (hr : 0 ≤ n ∧ n < 1000000) (hlen : ns.length ≤ 63)
    (h : ∀ t s', LS h₀ L (fun z => if z = "first" then some (.str (firstOf n) t) else m z) cv s'.heap → Upd L s s' → Q .next s') :
    wpAny (model PP w) A (exec (ltn PP 0) (lenv L fa cd)) Q E s := by
  have hil : its.size = ns.length := by have := hi.length; simpa using this
  obtain ⟨tn, htn⟩ : ∃ tn, its[i]? = some (.int n tn) := by
    obtain ⟨tn, e⟩ := ints_at hi hn
    exact ⟨tn, by simpa using e⟩
  refine wpAny_Assign_Name ?_
  refine list_item ?_
  refine list_strs (ns := firsts) (by rfl) (by decide) fun s₁ T items k₁ hT hiT _ => ?_
  have S₁ := S.keeps (kp_kept k₁)
  have hD₁ : s₁.heap.IsList D its := hD.at fun o e => kp_kept k₁ _ _ e
  refine wpAny_BinOp ?_
  refine wpAny_BinOp ?_
  refine list_item ?_
  refine ldl S₁.fr.ns (by exact hm) ?_
  refine ldl S₁.fr.ns (by exact hm2) ⟨D, its, _, _, _, rfl, rfl, hD₁, by rw [sizeLine_eq]; omega, by omega, by rw [Int.toNat_natCast]; exact htn, ?_⟩
  have hd1 : 0 ≤ n.fdiv 4096 := Int.fdiv_nonneg hr.1 (by omega)
  have hm1 : 0 ≤ (n.fdiv 4096).fmod 3 := Int.fmod_nonneg_of_pos _ (by omega)
  have hm2 : (n.fdiv 4096).fmod 3 < 3 := Int.fmod_lt_of_pos _ (by omega)
  refine wpAny_Constant_int (floordiv_int (by decide) ?_)
  refine wpAny_Constant_int (mod_int' (by decide) ?_)
  obtain ⟨u, hu⟩ := StrsAre.get' hiT (k := ((n.fdiv 4096).fmod 3).toNat) (by show _ < 3; omega)
  have hsz : items.size = 3 := by have := hiT.len_eq; rw [Array.length_toList] at this; exact this
  refine ⟨T, items, _, _, .str (firstOf n) u, rfl, rfl, hT, by rw [hsz, sizeLine_eq]; omega, hm1, by rw [Array.getElem?_toList] at hu; exact hu, ?_⟩
  refine stLS (S₁.keeps (kp_kept (kp_trans (kp_trans (kp_trans (kp_toks s₁ _) (kp_toks _ _)) (kp_toks _ _)) (kp_toks _ _)))) fun s₂ S₂ u₂ => ?_
  exact h _ _ S₂ ((Upd.of (kp_trans k₁ (kp_trans (kp_trans (kp_trans (kp_toks s₁ _) (kp_toks _ _)) (kp_toks _ _)) (kp_toks _ _)))).trans u₂)

theorem stCell {M : Model} {v : Value} {Q : Unit → Shared → Prop} (S : LS h₀ L m cv s.heap)
    (h : ∀ s', LS h₀ L m (some v) s'.heap → Upd (L + 1) s s' → Q () s') : wpAny M A (storeName (lenv L fa cd) (Str.ofString "second") v) Q E s := by
  refine wpAny_storeName_cell (c := L + 1) (v₀ := cv) (by rfl) (by rfl) (by rfl) S.cell fun h' hc hs => ?_
  refine h _ ⟨⟨S.fr.ns.sameBut hs (Nat.ne_of_lt (Nat.lt_succ_self L)), fun b o e => hs.extBut b o (Nat.ne_of_lt (Nat.lt_succ_of_lt (Nat.lt_of_lt_of_le (Heap.lt_size e) S.fr.above))) (S.fr.keep b o e), S.fr.above⟩, hc⟩ ⟨h', s.toks, rfl, hs.extBut⟩

theorem law_t1 {D : Addr} {its : Array Value} {ns : List Int} {i : Nat} {n : Int} {ti : Tok} {Q : Flow → Shared → Prop} (S : LS h₀ L m cv s.heap) (hm : m "drawn" = some (.ref D)) (hD : s.heap.IsList D its) (hi : IntsAre its.toList ns)
    (hm2 : m "turn" = some (.int (i : Nat) ti)) (hn : ns[i]? = some n) (hr : 0 ≤ n ∧ n < 1000000) (hlen : ns.length ≤ 63)
    (h : ∀ t s', LS h₀ L m (some (.str (secondOf n) t)) s'.heap → Upd (L + 1) s s' → Q .next s') :
    wpAny (model PP w) A (exec (ltn PP 1) (lenv L fa cd)) Q E s := by
  have hil : its.size = ns.length := by have := hi.length; simpa using this
  obtain ⟨tn, htn⟩ : ∃ tn, its[i]? = some (.int n tn) := by
    obtain ⟨tn, e⟩ := ints_at hi hn
    exact ⟨tn, by simpa using e⟩
  refine wpAny_Assign_Name ?_
  refine list_item ?_
  refine list_strs (ns := seconds) (by rfl) (by decide) fun s₁ T items k₁ hT hiT _ => ?_
  have S₁ := S.keeps (kp_kept k₁)
  have hD₁ : s₁.heap.IsList D its := hD.at fun o e => kp_kept k₁ _ _ e
  refine wpAny_BinOp ?_
  refine wpAny_BinOp ?_
  refine list_item ?_
  refine ldl S₁.fr.ns (by exact hm) ?_
  refine ldl S₁.fr.ns (by exact hm2) ⟨D, its, _, _, _, rfl, rfl, hD₁, by rw [sizeLine_eq]; omega, by omega, by rw [Int.toNat_natCast]; exact htn, ?_⟩
  have hd1 : 0 ≤ n.fdiv 12288 := Int.fdiv_nonneg hr.1 (by omega)
  have hm1 : 0 ≤ (n.fdiv 12288).fmod 4 := Int.fmod_nonneg_of_pos _ (by omega)
  have hm2 : (n.fdiv 12288).fmod 4 < 4 := Int.fmod_lt_of_pos _ (by omega)
  refine wpAny_Constant_int (floordiv_int (by decide) ?_)
  refine wpAny_Constant_int (mod_int' (by decide) ?_)
  obtain ⟨u, hu⟩ := StrsAre.get' hiT (k := ((n.fdiv 12288).fmod 4).toNat) (by show _ < 4; omega)
  have hsz : items.size = 4 := by have := hiT.len_eq; rw [Array.length_toList] at this; exact this
  refine ⟨T, items, _, _, .str (secondOf n) u, rfl, rfl, hT, by rw [hsz, sizeLine_eq]; omega, hm1, by rw [Array.getElem?_toList] at hu; exact hu, ?_⟩
  refine stCell (S₁.keeps (kp_kept (kp_trans (kp_trans (kp_trans (kp_toks s₁ _) (kp_toks _ _)) (kp_toks _ _)) (kp_toks _ _)))) fun s₂ S₂ u₂ => ?_
  exact h _ _ S₂ ((Upd.of (kp_trans k₁ (kp_trans (kp_trans (kp_trans (kp_toks s₁ _) (kp_toks _ _)) (kp_toks _ _)) (kp_toks _ _)))).trans u₂)
end
end
end Mine
-- Q01j
namespace Mine
section
open PySem PySem.W PyProof.Rows

def wordOf (f sc : Str) : Str := ⟨(cat ((f ++ Str.ofString "\n").cps.toList.map fun c => if c = 10 then sc else ⟨#[c]⟩)).toArray⟩

theorem word_strs {sc : Str} : ∀ (cs : List Nat) (vs ys : List Value), vs.length = cs.length → (∀ (j : Nat) (v : Value), vs[j]? = some v → ∃ c u, cs[j]? = some c ∧ v = Value.str ⟨#[c]⟩ u) →
    Paired (fun (v y : Value) => ∃ c u u', v = Value.str ⟨#[c]⟩ u ∧ y = Value.str (if c = 10 then sc else ⟨#[c]⟩) u') vs ys → StrsAre ys (cs.map fun c => if c = 10 then sc else ⟨#[c]⟩) := by
  intro cs
  induction cs with
  | nil =>
    intro vs ys hl _ hp
    have : vs = [] := List.eq_nil_of_length_eq_zero (by simpa using hl)
    subst this; cases hp; exact .nil
  | cons c r ih =>
    intro vs ys hl hv hp
    cases hp with
    | nil => simp at hl
    | cons h1 h2 =>
      obtain ⟨c₁, u₁, hc₁, e₁⟩ := hv 0 _ rfl
      obtain ⟨c₂, u₂, u₃, e₂, rfl⟩ := h1
      cases hc₁
      rw [e₁] at e₂
      cases e₂
      exact .cons _ _ (ih _ _ (by simpa using hl) (fun j v hj => hv (j + 1) v hj) h2)

section
variable {w : World} {A : Around} {E : Value → Shared → Prop} {s : Shared} {mg mb : Str → Option Value} {h₀ : Heap} {L fa : Addr} {cd : Value} {m : Str → Option Value} {cv : Option Value}

theorem ldCell {M : Model} {pos : Pos} {v : Value} {Q : Value → Shared → Prop} (S : LS h₀ L m (some v) s.heap) (h : Q v s) : wpAny M A (eval (.Name (Str.ofString "second") pos) (lenv L fa cd)) Q E s :=
  wpAny_Name (wpAny_loadName_cell (c := L + 1) (by rfl) (by rfl) (by rfl) S.cell h) (by decide)

theorem law_t2 {x f sc : Str} {tx tf ts : Tok} {Q : Flow → Shared → Prop} (W : Wd (KK w) mg mb h₀) (S : LS h₀ L m (some (.str sc ts)) s.heap) (hroom : A.depth < recursionLimit)
    (hm1 : m "letter" = some (.str x tx)) (hm2 : m "first" = some (.str f tf)) (hok : RepOk x [(Str.ofString "\x0d", f), (Str.ofString "\n", sc)]) (hlen : (reps x [(Str.ofString "\x0d", f), (Str.ofString "\n", sc)]).length ≤ 400000)
    (h : ∀ t s', LS h₀ L (fun z => if z = "letter" then some (.str (quoted (reps x [(Str.ofString "\x0d", f), (Str.ofString "\n", sc)])) t) else m z) (some (.str sc ts)) s'.heap → Upd L s s' → Q .next s') :
    wpAny (model PP w) A (exec (ltn PP 2) (lenv L fa cd)) Q E s := by
  have W₁ : Wd (KK w) mg mb s.heap := W.keeps S.fr.keep
  refine wpAny_Assign_Name ?_
  refine Call_fn W₁ (by rfl) (by rfl) (by rfl) ?_
  refine args_cons ?_
  refine Call_fn W₁ (by rfl) (by rfl) (by rfl) ?_
  refine args_cons (ldl S.fr.ns (by exact hm1) ?_)
  refine args_cons (wpAny_Constant_str ?_)
  refine args_cons (ldl S.fr.ns (by exact hm2) ?_)
  refine args_cons (wpAny_Constant_str ?_)
  refine args_cons (ldCell S (args_nil ⟨kp_trans (kp_toks s _) (kp_toks _ _), ?_⟩))
  refine replace_spec (ps := [(Str.ofString "\x0d", f), (Str.ofString "\n", sc)]) W₁ hroom (.cons _ _ _ _ (.cons _ _ _ _ .nil)) (Nat.le_refl 2) hok fun s₂ t₂ k₂ => ?_
  have k₂' : Keeps s s₂ := kp_step (kp_step k₂)
  have S₂ := S.keeps (kp_kept k₂')
  refine args_nil ⟨k₂', ?_⟩
  refine quote_spec (W.keeps S₂.fr.keep) hroom hlen fun s₃ t₃ k₃ => ?_
  exact stLS (S₂.keeps (kp_kept k₃)) fun s₄ S₄ u₄ => h _ _ S₄ ((Upd.of (kp_trans k₂' k₃)).trans u₄)

theorem law_t3 {f sc : Str} {tf ts : Tok} {Q : Flow → Shared → Prop} (S : LS h₀ L m (some (.str sc ts)) s.heap) (hh : A.handled = none) (hm2 : m "first" = some (.str f tf)) (hf : f.length ≤ 10) (hsc : sc.length ≤ 10)
    (h : ∀ t s', LS h₀ L (fun z => if z = "word" then some (.str (wordOf f sc) t) else m z) (some (.str sc ts)) s'.heap → Upd L s s' → Q .next s') :
    wpAny (model PP w) A (exec (ltn PP 3) (lenv L fa cd)) Q E s := by
  have hsl : sizeLine = 16777216 := sizeLine_eq
  refine wpAny_Assign_Name ?_
  refine Call_str1 F.slot_str_join F.type_str_join ?_
  refine wpAny_Constant_str ⟨_, _, rfl, ?_⟩
  refine wpAny_ListComp_free (cl := [(Str.ofString "second", L + 1)]) (fun _ => true) (fun v y => ∃ c u u', v = .str ⟨#[c]⟩ u ∧ y = .str (if c = 10 then sc else ⟨#[c]⟩) u') (by rfl) (by decide) (by rfl) (by decide) (by rfl) ?_
  refine wpAny_BinOp ?_
  refine ldl S.fr.ns (by exact hm2) ?_
  refine wpAny_Constant_str ?_
  refine add_str_k (by have : (Str.ofString "\n").length = 1 := by decide +kernel
                       omega) fun s₁ t₁ k₁ => ?_
  have k₁' : Keeps s s₁ := kp_step (kp_step k₁)
  have S₁ := S.keeps (kp_kept k₁')
  refine wpAny_pyIter_str fun o St hW hSt => ?_
  have hfl : (f ++ Str.ofString "\n").length ≤ 11 := by
    rw [Str.length_append]
    have : (Str.ofString "\n").length = 1 := by decide +kernel
    omega
  have hI : s₁.heap.get? s₁.heap.objs.size = none := Heap.get?_none_of_le (Nat.le_refl _)
  refine ⟨s₁.heap.objs.size, _, _, _, _, St, rfl, hW A hh, by show (f ++ Str.ofString "\n").length ≤ _; omega, hSt, ?_, ⟨?_, ?_⟩, ?_⟩
  · intro b hb
    rw [List.mem_singleton.mp hb]
    show _ < (s₁.heap.push o).objs.size
    rw [Heap.size_push]; exact Nat.lt_succ_self _
  · intro C i v s₃ m₃ E' _ _ _ _ _ _
    exact wpAny_tests_nil ⟨rfl, kp_refl s₃⟩
  · intro C i v s₃ m₃ E' hC hv _ hn hx hk _
    obtain ⟨c, u, hc, rfl⟩ := hv
    have hcell : s₃.heap.IsCell (L + 1) (some (.str sc ts)) := by
      obtain ⟨oc, hoc, hdc⟩ := S₁.cell
      refine ⟨oc, hk _ oc (fun q => ?_) (Heap.get?_push_of_some _ hoc), hdc⟩
      have := List.mem_singleton.mp q
      rw [this, hI] at hoc; cases hoc
    refine wpAny_IfExp ?_
    refine wpAny_isTrue_Compare1 ?_
    refine ldl hn hx ?_
    refine wpAny_Constant_str (eq_str (wpAny_truthy_bool ?_))
    have en : Str.ofString "\n" = ⟨#[10]⟩ := by decide +kernel
    rw [en]
    by_cases hc10 : c = 10
    · subst hc10
      rw [if_pos (by simp)]
      refine wpAny_Name (wpAny_loadName_cell (c := L + 1) (by rfl) (by rfl) (by rfl) hcell ?_) (by decide)
      exact ⟨⟨10, u, ts, rfl, by rw [if_pos rfl]⟩, kp_toks _ _⟩
    · rw [if_neg (by simpa using hc10)]
      refine ldl hn hx ⟨⟨c, u, u, rfl, by rw [if_neg hc10]⟩, kp_toks _ _⟩
  · intro D h' tk ys vs hD hl _ hlen hP hF hk
    have hy : StrsAre ys.toList ((f ++ Str.ofString "\n").cps.toList.map fun c => if c = 10 then sc else ⟨#[c]⟩) := by
      rw [List.filter_eq_self.mpr (fun _ _ => rfl)] at hF
      refine word_strs _ vs ys.toList ?_ ?_ hF
      · rw [hlen, Array.length_toList]
      · intro j v hj
        obtain ⟨c, u, hc, e⟩ := hP j v hj
        exact ⟨c, u, by rw [Array.getElem?_toList]; exact hc, e⟩
    have e0 : (Str.ofString "").cps = #[] := by decide +kernel
    have k₂ : Keeps s₁ { s₁ with heap := h', toks := tk } := ⟨h', tk, rfl, fun b o' e => hk b o' (fun q => by
      rw [List.mem_singleton.mp q, hI] at e; cases e) (Heap.get?_push_of_some _ e)⟩
    have hlens : ∀ (cs : List Nat), ((cs.map fun c => if c = 10 then sc else (⟨#[c]⟩ : Str)).map (·.length)).sum ≤ 11 * cs.length := by
      intro cs
      induction cs with
      | nil => simp
      | cons c r ih =>
        simp only [List.map_cons, List.sum_cons, List.length_cons]
        have : (if c = 10 then sc else (⟨#[c]⟩ : Str)).length ≤ 11 := by
          split
          · omega
          · show 1 ≤ 11; omega
        omega
    have hcl : (f ++ Str.ofString "\n").cps.toList.length ≤ 11 := by rw [Array.length_toList]; exact hfl
    refine join_call hl hy (by
      have h1 := hlens (f ++ Str.ofString "\n").cps.toList
      have : (Str.ofString "").length = 0 := by decide +kernel
      rw [this]; omega) fun s₄ t₄ k₄ => ?_
    rw [txtJoin_empty _ e0]
    have k₄' : Keeps s s₄ := kp_trans (kp_trans k₁' k₂) k₄
    refine stLS (S.keeps (kp_kept k₄')) fun s₅ S₅ u₅ => ?_
    exact h _ _ S₅ ((Upd.of k₄').trans u₅)
end
end
end Mine
-- Q01k
namespace Mine
section
open PySem PySem.W PyProof.Rows

def seamOf (x : Str) : Nat := if x.cps.toList.head? = some 10 ∧ x.cps.toList.getLast? = some 13 then 1 else 0

section
variable {w : World} {A : Around} {E : Value → Shared → Prop} {s : Shared} {mg mb : Str → Option Value} {h₀ : Heap} {L fa : Addr} {cd : Value} {m : Str → Option Value} {cv : Option Value}

theorem law_t4 {x : Str} {tx : Tok} {Q : Flow → Shared → Prop} (S : LS h₀ L m cv s.heap) (hm : m "word" = some (.str x tx)) (h0 : 0 < x.length) (hx : x.length ≤ 500)
    (h : ∀ t s', LS h₀ L (fun z => if z = "seam" then some (.int (seamOf x : Nat) t) else m z) cv s'.heap → Upd L s s' → Q .next s') :
    wpAny (model PP w) A (exec (ltn PP 4) (lenv L fa cd)) Q E s := by
  have hlen : x.cps.toList.length = x.length := by simp [Str.length]
  obtain ⟨c, hc⟩ : ∃ c, x.cps.toList.head? = some c := by
    cases q : x.cps.toList with
    | nil => rw [q] at hlen; simp at hlen; omega
    | cons c r => exact ⟨c, rfl⟩
  obtain ⟨d, hd⟩ : ∃ d, x.cps.toList.getLast? = some d := by
    cases q : x.cps.toList.getLast? with
    | none => rw [List.getLast?_eq_none_iff] at q; rw [q] at hlen; simp at hlen; omega
    | some d => exact ⟨d, rfl⟩
  have hc0 : (seqIndex? 0 x.length).bind (x.cps[·]?) = some c := by
    have e : x.cps[0]? = some c := by rw [← Array.getElem?_toList, ← List.head?_eq_getElem?]; exact hc
    unfold seqIndex?
    simp [h0, e]
  have hd0 : (seqIndex? (-1) x.length).bind (x.cps[·]?) = some d := by
    have e : x.cps[x.length - 1]? = some d := by
      rw [← Array.getElem?_toList, ← hlen, ← List.getLast?_eq_getElem?]; exact hd
    have e2 : seqIndex? (-1) x.length = some (x.length - 1) := by
      unfold seqIndex?
      have h1 : ((-1 : Int) < 0) := by decide
      have h2 : ¬ ((-1 : Int) + (x.length : Int) < 0) := by omega
      simp only [h1, if_true]
      have h3 : (-1 + (x.length : Int)) = ((x.length - 1 : Nat) : Int) := by omega
      rw [h3]
      simp
      omega
    rw [e2]; exact e
  have en : Str.ofString "\n" = ⟨#[10]⟩ := by decide +kernel
  have er : Str.ofString "\x0d" = ⟨#[13]⟩ := by decide +kernel
  refine wpAny_Assign_Name ?_
  refine wpAny_mono (Q := fun v s' => Keeps s s' ∧ ∃ t, v = .int (seamOf x : Nat) t) ?_ (fun v s' hv => ?_) (fun _ _ e => e)
  · refine wpAny_IfExp ?_
    refine wpAny_mono (Q := fun b s' => Keeps s s' ∧ b = decide (seamOf x = 1)) ?_ (fun b s' hb => ?_) (fun _ _ e => e)
    · refine wpAny_isTrue_BoolOp ?_
      refine wpAny_allTrue_And_cons ?_
      refine wpAny_isTrue_Compare1 ?_
      refine str_item ?_
      refine ldl S.fr.ns (by exact hm) ?_
      refine wpAny_Constant_int ⟨x, tx, 0, _, c, rfl, rfl, hc0, by omega, by omega, fun s₁ t₁ k₁ => ?_⟩
      refine wpAny_Constant_str (eq_str (wpAny_truthy_bool ?_))
      rw [en]
      have k₁' : Keeps s { s₁ with toks := s₁.toks + 1 } := kp_trans (kp_step k₁) (kp_toks s₁ _)
      by_cases hc10 : c = 10
      · subst hc10
        rw [if_pos (by simp)]
        refine wpAny_allTrue_And_cons ?_
        refine wpAny_isTrue_Compare1 ?_
        refine str_item ?_
        have S₁ := S.keeps (kp_kept k₁')
        refine ldl S₁.fr.ns (by exact hm) ?_
        refine wpAny_UnaryOp (wpAny_Constant_int (neg_int ?_))
        refine ⟨x, tx, -1, _, d, rfl, rfl, hd0, by omega, by omega, fun s₂ t₂ k₂ => ?_⟩
        refine wpAny_Constant_str (eq_str (wpAny_truthy_bool ?_))
        rw [er]
        have k₂' : Keeps s { s₂ with toks := s₂.toks + 1 } := kp_trans (kp_trans k₁' (kp_step (kp_step k₂))) (kp_toks s₂ _)
        by_cases hd13 : d = 13
        · subst hd13
          rw [if_pos (by simp)]
          refine wpAny_allTrue_And_nil ⟨k₂', ?_⟩
          unfold seamOf; rw [if_pos ⟨hc, hd⟩]; rfl
        · rw [if_neg (by simpa using hd13)]
          refine ⟨k₂', ?_⟩
          unfold seamOf; rw [if_neg (fun q => hd13 (by have := q.2; rw [hd] at this; exact Option.some.inj this))]; rfl
      · rw [if_neg (by simpa using hc10)]
        refine ⟨k₁', ?_⟩
        unfold seamOf; rw [if_neg (fun q => hc10 (by have := q.1; rw [hc] at this; exact Option.some.inj this))]; rfl
    · obtain ⟨kb, rfl⟩ := hb
      by_cases hs : seamOf x = 1
      · rw [if_pos (by simpa using hs)]
        exact wpAny_Constant_int ⟨kp_trans kb (kp_toks _ _), _, by rw [hs]; rfl⟩
      · rw [if_neg (by simpa using hs)]
        have hs0 : seamOf x = 0 := by unfold seamOf at *; split at hs <;> simp_all
        exact wpAny_Constant_int ⟨kp_trans kb (kp_toks _ _), _, by rw [hs0]; rfl⟩
  · obtain ⟨k, t, rfl⟩ := hv
    exact stLS (S.keeps (kp_kept k)) fun s₃ S₃ u₃ => h _ _ S₃ ((Upd.of k).trans u₃)

theorem law_t5 {x : Str} {tx ts : Tok} {sm e : Nat} {Q : Flow → Shared → Prop} (W : Wd (KK w) mg mb h₀) (S : LS h₀ L m cv s.heap) (hm : m "word" = some (.str x tx)) (hm2 : m "seam" = some (.int (sm : Nat) ts)) (hx : x.length ≤ 500)
    (he : (x.length : Int) - Txt.count x (Str.ofString "\x0d\n") - (sm : Int) = (e : Nat))
    (h : ∀ t s', LS h₀ L (fun z => if z = "each" then some (.int (e : Nat) t) else m z) cv s'.heap → Upd L s s' → Q .next s') :
    wpAny (model PP w) A (exec (ltn PP 5) (lenv L fa cd)) Q E s := by
  have W₁ : Wd (KK w) mg mb s.heap := W.keeps S.fr.keep
  refine wpAny_Assign_Name ?_
  refine wpAny_BinOp ?_
  refine wpAny_BinOp ?_
  refine Call_b1 W₁ (by rfl) boot_len (by decide) ?_
  refine ldl S.fr.ns (by exact hm) ?_
  refine len_str (by omega) ?_
  refine Call_str1 F.slot_str_count F.type_str_count ?_
  refine ldl S.fr.ns (by exact hm) ⟨x, tx, rfl, ?_⟩
  refine wpAny_Constant_str (SC.count ?_)
  refine sub_int ?_
  refine ldl S.fr.ns (by exact hm2) ?_
  refine sub_int ?_
  rw [he]
  have k : Keeps s _ := kp_trans (kp_trans (kp_trans (kp_trans (kp_toks s (s.toks + 1 + 1)) (kp_toks _ (s.toks + 1 + 1 + 1))) (kp_toks _ (s.toks + 1 + 1 + 1 + 1))) (kp_toks _ (s.toks + 1 + 1 + 1 + 1 + 1))) (kp_toks _ (s.toks + 1 + 1 + 1 + 1 + 1 + 1))
  exact stLS (S.keeps (kp_kept k)) fun s₃ S₃ u₃ => h _ _ S₃ ((Upd.of k).trans u₃)

theorem law_t6 {t mo e sm : Nat} {tt tm te ts : Tok} {Q : Flow → Shared → Prop} (S : LS h₀ L m cv s.heap) (hh : A.handled = none) (hm1 : m "times" = some (.int (t : Nat) tt)) (hm2 : m "more" = some (.int (mo : Nat) tm)) (hm3 : m "each" = some (.int (e : Nat) te)) (hm4 : m "seam" = some (.int (sm : Nat) ts))
    (h1 : t ≤ 1000) (h2 : mo ≤ 1000)
    (h : ∀ u u' s', LS h₀ L (fun z => if z = "times" then some (.int ((t * e : Nat) : Int) u) else if z = "more" then some (.int ((mo * e + sm : Nat) : Int) u') else m z) cv s'.heap → Upd L s s' → Q .next s') :
    wpAny (model PP w) A (exec (ltn PP 6) (lenv L fa cd)) Q E s := by
  refine assign_pair_swapped hh ?_
  refine Tuple_ ?_
  refine args_cons ?_
  refine wpAny_BinOp (ldl S.fr.ns (by exact hm1) ?_)
  refine ldl S.fr.ns (by exact hm3) (mul_int ?_ (IntMulOk.of_left (intBits_le_64 (by omega) (by omega))))
  refine args_cons ?_
  refine wpAny_BinOp ?_
  refine wpAny_BinOp (ldl S.fr.ns (by exact hm2) ?_)
  refine ldl S.fr.ns (by exact hm3) (mul_int ?_ (IntMulOk.of_left (intBits_le_64 (by omega) (by omega))))
  refine ldl S.fr.ns (by exact hm4) (add_int (args_nil ?_))
  refine new_tuple (by show 2 ≤ _; rw [sizeLine_eq]; omega) fun s₁ T k₁ hT => ⟨T, _, _, rfl, hT, fun s₂ k₂ => ?_⟩
  have kk : Keeps s s₂ := kp_trans (kp_step (kp_step (kp_step k₁))) k₂
  have e1 : (t : Int) * (e : Int) = ((t * e : Nat) : Int) := by push_cast; rfl
  have e2 : (mo : Int) * (e : Int) + (sm : Int) = ((mo * e + sm : Nat) : Int) := by push_cast; rfl
  rw [e1, e2]
  refine stLS (S.keeps (kp_kept kk)) fun s₃ S₃ u₃ => ?_
  exact stLS S₃ fun s₄ S₄ u₄ => h _ _ _ S₄ (((Upd.of kk).trans u₃).trans u₄)

theorem law_t7 {D : Addr} {rows : List Str} {t mo i : Nat} {tl' tt tm ti : Tok} {Q : Flow → Shared → Prop} (W : Wd (KK w) mg mb h₀) (S : LS h₀ L m cv s.heap) (hroom : A.depth + 1 < recursionLimit) (hh : A.handled = none)
    (hm1 : m "letter" = some (.str ⟨(tl (endsN t mo) (rowT (i + 2)) 0 (LL rows)).toArray⟩ tl')) (hm2 : m "rows" = some (.ref D)) (hm3 : m "times" = some (.int (t : Nat) tt)) (hm4 : m "more" = some (.int (mo : Nat) tm)) (hm5 : m "turn" = some (.int (i : Nat) ti))
    (hD : AccIs D rows s.heap) (hn : rows.length ≤ 900) (h3 : t ≤ 1000) (h4 : mo ≤ 1000) (h5 : i ≤ 10) (hfit : (tl (endsN t mo) (rowT (i + 2)) 0 (LL rows)).length ≤ 1000000)
    (h : ∀ s', Keeps s s' → Q .next s') :
    wpAny (model PP w) A (exec (ltn PP 7) (lenv L fa cd)) Q E s := by
  have W₁ : Wd (KK w) mg mb s.heap := W.keeps S.fr.keep
  obtain ⟨items, hl, hi⟩ := hD
  refine wpAny_If ?_
  refine wpAny_isTrue_Compare1 ?_
  refine ldl S.fr.ns (by exact hm1) ?_
  refine Call_fn W₁ (by rfl) (by rfl) (by rfl) ?_
  refine args_cons (ldl S.fr.ns (by exact hm2) ?_)
  refine args_cons (ldl S.fr.ns (by exact hm3) ?_)
  refine args_cons (ldl S.fr.ns (by exact hm4) ?_)
  refine args_cons ?_
  refine wpAny_BinOp (ldl S.fr.ns (by exact hm5) ?_)
  refine wpAny_Constant_int (add_int (args_nil ⟨kp_trans (kp_toks s _) (kp_toks _ _), ?_⟩))
  have e1 : (i : Int) + 2 = ((i + 2 : Nat) : Int) := by push_cast; rfl
  rw [e1]
  refine told_spec (d := i + 2) W₁ hroom hh hl hi hn h3 h4 (by omega) hfit fun s₂ t₂ k₂ => ?_
  refine ne_str (wpAny_truthy_bool ?_)
  rw [bne_self_eq_false, if_neg Bool.false_ne_true]
  exact wpAny_execs_nil (h _ (kp_step (kp_step k₂)))
end
end
end Mine
-- PureE
namespace Mine
section
open PySem PyProof.Rows

def hdc (d : Nat) : List (List Nat) → List (List Nat)
  | [] => [[d]]
  | r :: rs => (d :: r) :: rs

def spl (y : List Nat) : Nat → List Nat → List (List Nat)
  | _, [] => [[]]
  | k + 1, _ :: t => spl y k t
  | 0, d :: t => if (d :: t).take y.length = y then [] :: spl y (y.length - 1) t else hdc d (spl y 0 t)

theorem spl_skip (y : List Nat) : ∀ (k : Nat) (l : List Nat), spl y k l = spl y 0 (l.drop k)
  | 0, l => by simp
  | k + 1, [] => by simp [spl]
  | k + 1, _ :: t => by rw [spl, List.drop_succ_cons]; exact spl_skip y k t

theorem spl_ne (y : List Nat) : ∀ (k : Nat) (l : List Nat), ∃ r rs, spl y k l = r :: rs
  | k, [] => by cases k <;> exact ⟨[], [], rfl⟩
  | k + 1, _ :: t => spl_ne y k t
  | 0, d :: t => by
    rw [spl]
    split
    · exact ⟨_, _, rfl⟩
    · obtain ⟨r, rs, e⟩ := spl_ne y 0 t
      rw [e]; exact ⟨_, _, rfl⟩

theorem spl_none {y T : List Nat} (hy : 1 ≤ y.length) : ∀ (k a : Nat), a + k = T.length → (∀ j, a ≤ j → (T.drop j).take y.length ≠ y) → spl y 0 (T.drop a) = [T.drop a]
  | 0, a, h, _ => by rw [List.drop_eq_nil_of_le (by omega)]; rfl
  | k + 1, a, h, hn => by
    have ih := spl_none hy k (a + 1) (by omega) (fun j hj => hn j (by omega))
    have hd := drop_cons (T := T) (d := a) (by omega)
    rw [hd, spl, if_neg (by rw [← hd]; exact hn a (Nat.le_refl _)), ih]; rfl

theorem spl_some {y T : List Nat} (hy : 1 ≤ y.length) : ∀ (k a c : Nat), c = a + k → c < T.length → (T.drop c).take y.length = y → (∀ j, a ≤ j → j < c → (T.drop j).take y.length ≠ y) →
    spl y 0 (T.drop a) = (T.drop a).take (c - a) :: spl y 0 (T.drop (c + y.length))
  | 0, a, c, h, hlt, hm, _ => by
    have hca : c = a := by omega
    subst hca
    have hd := drop_cons (T := T) (d := c) hlt
    rw [hd, spl, if_pos (by rw [← hd]; exact hm), spl_skip, List.drop_drop, Nat.sub_self, List.take_zero]
    congr 3
    omega
  | k + 1, a, c, h, hlt, hm, hn => by
    have ih := spl_some hy k (a + 1) c (by omega) hlt hm (fun j h1 h2 => hn j (by omega) h2)
    have hd := drop_cons (T := T) (d := a) (by omega)
    rw [hd, spl, if_neg (by rw [← hd]; exact hn a (Nat.le_refl _) (by omega)), ih, show c - a = (c - (a + 1)) + 1 by omega, List.take_succ_cons]
    rfl

open Builtin.Str StrLaws in
theorem at_iff (x y : Str) (hy : 1 ≤ y.length) (k : Nat) : At x y x.length k ↔ (x.cps.toList.drop k).take y.length = y.cps.toList := by
  have e : subAt x y k = true ↔ (x.cps.toList.drop k).take y.length = y.cps.toList := by
    rw [subAt_eq]; exact beq_iff_eq
  constructor
  · exact fun h => e.mp h.2
  · intro h
    refine ⟨?_, e.mpr h⟩
    have hl := congrArg List.length h
    simp only [List.length_take, List.length_drop] at hl
    have e1 : x.cps.toList.length = x.length := by simp [Str.length]
    have e2 : y.cps.toList.length = y.length := by simp [Str.length]
    omega

open Builtin.Str StrLaws in
theorem parts_spl (x y : Str) (hy : 1 ≤ y.length) : ∀ (cuts : List Nat) (a f : Nat), a ≤ x.length → ChainG x y x.length a cuts f → (∀ k, f ≤ k → ¬ At x y x.length k) →
    (partsFrom x y.length a cuts).map (·.cps.toList) = spl y.cps.toList 0 (x.cps.toList.drop a)
  | [], a, f, ha, h, hn => by
    have e : f = a := h
    subst e
    have e1 : x.cps.toList.length = x.length := by simp [Str.length]
    have e2 : y.cps.toList.length = y.length := by simp [Str.length]
    rw [spl_none (by omega) (x.length - f) f (by omega) (fun j hj q => hn j hj ((at_iff x y hy j).mpr (by rw [e2] at q; exact q)))]
    show [(strSub x f x.length).cps.toList] = _
    rw [strSub_toList, List.take_of_length_le (by rw [List.length_drop]; omega)]
  | c :: r, a, f, ha, h, hn => by
    obtain ⟨h1, h2, h3, h4⟩ := h
    have e1 : x.cps.toList.length = x.length := by simp [Str.length]
    have e2 : y.cps.toList.length = y.length := by simp [Str.length]
    have hc := (at_iff x y hy c).mp h2
    have hcl := h2.1
    rw [spl_some (y := y.cps.toList) (by omega) (c - a) a c (by omega) (by omega) (by rw [e2]; exact hc) (fun j a1 a2 q => h3 j a1 a2 ((at_iff x y hy j).mpr (by rw [e2] at q; exact q)))]
    show (strSub x a c).cps.toList :: (partsFrom x y.length (c + y.length) r).map (·.cps.toList) = _
    rw [parts_spl x y hy r (c + y.length) f (by omega) h4 hn, strSub_toList, e2]

open Builtin.Str StrLaws in
theorem split_spl (x y : Str) (hy : 1 ≤ y.length) (hk : Builtin.Str.strKind y = 1) : (Txt.split x y).map (·.cps.toList) = spl y.cps.toList 0 x.cps.toList := by
  obtain ⟨f, hG, hn⟩ := occ_tight x y hy
  have hx1 : 1 ≤ Builtin.Str.strKind x := by unfold Builtin.Str.strKind; split <;> (try split) <;> omega
  have e1 : x.cps.toList.length = x.length := by simp [Str.length]
  have e2 : y.cps.toList.length = y.length := by simp [Str.length]
  unfold Txt.split
  split
  · rename_i hc
    have hlt : x.length < y.length := by
      rw [hk] at hc
      simp only [Bool.or_eq_true, decide_eq_true_eq] at hc
      omega
    have := spl_none (y := y.cps.toList) (T := x.cps.toList) (by omega) x.length 0 (by omega) (fun j _ q => by
      have hl := congrArg List.length q
      simp only [List.length_take, List.length_drop] at hl
      omega)
    rw [List.drop_zero] at this
    rw [this]; rfl
  · split
    · rename_i he
      have e0 : occurrences x y 0 x.length (x.length + 1) = [] := List.isEmpty_iff.mp he
      rw [e0] at hG
      have := parts_spl x y hy [] 0 f (Nat.zero_le _) hG hn
      rw [List.drop_zero] at this
      rw [← this]
      show _ = [(strSub x 0 x.length).cps.toList]
      rw [sub_whole]; rfl
    · rw [partsBetween_eq]
      have := parts_spl x y hy _ 0 f (Nat.zero_le _) hG hn
      rw [List.drop_zero] at this
      exact this
end
end Mine
-- PureF
namespace Mine
section
open PySem PyProof.Rows

/-- the rows of a text -/
def rwf : Bool → List Nat → List (List Nat)
  | _, [] => [[]]
  | p, c :: t => if c = 13 then [] :: rwf true t else if c = 10 then (if p = true then rwf false t else [] :: rwf false t) else hdc c (rwf false t)

theorem rwf_ne : ∀ (p : Bool) (l : List Nat), ∃ r rs, rwf p l = r :: rs
  | _, [] => ⟨[], [], rfl⟩
  | p, c :: t => by
    rw [rwf]
    split
    · exact ⟨_, _, rfl⟩
    · split
      · split
        · exact rwf_ne false t
        · exact ⟨_, _, rfl⟩
      · obtain ⟨r, rs, e⟩ := rwf_ne false t
        rw [e]; exact ⟨_, _, rfl⟩

def clean (r : List Nat) : Prop := ∀ c ∈ r, c ≠ 10 ∧ c ≠ 13

theorem rwf_clean : ∀ (p : Bool) (l : List Nat), ∀ r ∈ rwf p l, clean r
  | _, [], r, h => by
    rw [rwf] at h
    rw [List.mem_singleton.mp h]; intro c hc; cases hc
  | p, c :: t, r, h => by
    rw [rwf] at h
    split at h
    · rcases List.mem_cons.mp h with q | q
      · rw [q]; intro c hc; cases hc
      · exact rwf_clean true t r q
    · split at h
      · split at h
        · exact rwf_clean false t r h
        · rcases List.mem_cons.mp h with q | q
          · rw [q]; intro c hc; cases hc
          · exact rwf_clean false t r q
      · rename_i h13 h10
        obtain ⟨r', rs, e⟩ := rwf_ne false t
        rw [e] at h
        have ih := rwf_clean false t
        rw [e] at ih
        rcases List.mem_cons.mp h with q | q
        · rw [q]
          intro d hd
          rcases List.mem_cons.mp hd with q' | q'
          · rw [q']; exact ⟨h10, h13⟩
          · exact ih r' (.head _) d q'
        · exact ih r (.tail _ q)

theorem rwf_len : ∀ (p : Bool) (l : List Nat), (rwf p l).length ≤ l.length + 1
  | _, [] => by simp [rwf]
  | p, c :: t => by
    have h1 := rwf_len true t
    have h2 := rwf_len false t
    rw [rwf]
    split
    · simp only [List.length_cons]; omega
    · split
      · split
        · simp only [List.length_cons]; omega
        · simp only [List.length_cons]; omega
      · obtain ⟨r, rs, e⟩ := rwf_ne false t
        rw [e] at h2 ⊢
        simp only [hdc, List.length_cons] at h2 ⊢
        omega

theorem rwf_head {l : List Nat} (h : l.getD 0 0 ≠ 10) : rwf true l = rwf false l := by
  cases l with
  | nil => rfl
  | cons c t =>
    have hc : c ≠ 10 := h
    simp [rwf, hc]

-- the three cuts, one in another
def cut2 (a : List Nat) : List (List Nat) := (spl [13] 0 a).flatMap fun z => spl [10] 0 z

theorem spl1_cons (c d : Nat) (t : List Nat) : spl [c] 0 (d :: t) = if d = c then [] :: spl [c] 0 t else hdc d (spl [c] 0 t) := by
  rw [spl]
  simp

theorem cut2_nil : cut2 [] = [[]] := rfl
theorem cut2_13 (a : List Nat) : cut2 (13 :: a) = [] :: cut2 a := by
  unfold cut2
  rw [spl1_cons, if_pos rfl, List.flatMap_cons]; rfl
theorem cut2_10 (a : List Nat) : cut2 (10 :: a) = [] :: cut2 a := by
  unfold cut2
  rw [spl1_cons, if_neg (by decide)]
  obtain ⟨r, rs, e⟩ := spl_ne [13] 0 a
  rw [e]
  show ((10 :: r) :: rs).flatMap _ = _
  rw [List.flatMap_cons, List.flatMap_cons, spl1_cons, if_pos rfl]; rfl
theorem cut2_other {d : Nat} (h1 : d ≠ 10) (h2 : d ≠ 13) (a : List Nat) : cut2 (d :: a) = hdc d (cut2 a) := by
  unfold cut2
  rw [spl1_cons, if_neg h2]
  obtain ⟨r, rs, e⟩ := spl_ne [13] 0 a
  rw [e]
  show ((d :: r) :: rs).flatMap _ = _
  rw [List.flatMap_cons, List.flatMap_cons, spl1_cons, if_neg h1]
  obtain ⟨r', rs', e'⟩ := spl_ne [10] 0 r
  rw [e']; rfl

theorem cuts_rows : ∀ (l : List Nat), (spl [13, 10] 0 l).flatMap cut2 = rwf false l
  | [] => rfl
  | [c] => by
    have e : spl [13, 10] 0 [c] = [[c]] := by
      rw [spl, if_neg (by simp)]; rfl
    rw [e, List.flatMap_cons, List.flatMap_nil, List.append_nil]
    rw [rwf]
    by_cases h13 : c = 13
    · subst h13; rw [cut2_13]; rfl
    · rw [if_neg h13]
      by_cases h10 : c = 10
      · subst h10; rw [cut2_10]; rfl
      · rw [if_neg h10, cut2_other h10 h13]; rfl
  | c :: d :: t => by
    have ih1 := cuts_rows (d :: t)
    have ih2 := cuts_rows t
    by_cases hm : c = 13 ∧ d = 10
    · obtain ⟨rfl, rfl⟩ := hm
      rw [spl, if_pos (by simp), spl_skip]
      show ([] :: spl [13, 10] 0 t).flatMap cut2 = _
      rw [List.flatMap_cons, ih2, cut2_nil]
      simp [rwf]
    · rw [spl, if_neg (by simpa using hm)]
      obtain ⟨r, rs, e⟩ := spl_ne [13, 10] 0 (d :: t)
      rw [e] at ih1 ⊢
      show ((c :: r) :: rs).flatMap cut2 = _
      rw [List.flatMap_cons] at ih1 ⊢
      by_cases h13 : c = 13
      · subst h13
        have hd : d ≠ 10 := fun q => hm ⟨rfl, q⟩
        rw [cut2_13, List.cons_append, ih1, ← rwf_head (l := d :: t) (by simpa using hd)]
        conv => rhs; rw [rwf]
        simp
      · by_cases h10 : c = 10
        · subst h10
          rw [cut2_10, List.cons_append, ih1]
          conv => rhs; rw [rwf]
          simp
        · rw [cut2_other h10 h13]
          conv => rhs; rw [rwf]
          rw [if_neg h13, if_neg h10, ← ih1]
          obtain ⟨r', rs', e'⟩ : ∃ r' rs', cut2 r = r' :: rs' := by
            unfold cut2
            obtain ⟨a, as, ea⟩ := spl_ne [13] 0 r
            rw [ea, List.flatMap_cons]
            obtain ⟨b, bs, eb⟩ := spl_ne [10] 0 a
            rw [eb]; exact ⟨_, _, rfl⟩
          rw [e']; rfl
end
end Mine
-- PureG
namespace Mine
section
open PySem PyProof.Rows

theorem rowT_zero (r : List Nat) : rowT 0 r = r := by unfold rowT; split <;> simp

-- P2
theorem tl_succ (rs : List (List Nat)) : ∀ n, 1 ≤ n → tl (endsN 1 0) (rowT 0) (n + 1) rs = 13 :: 10 :: tl (endsN 1 0) (rowT 0) n rs := by
  induction rs with
  | nil =>
    intro n hn
    show endsN 1 0 n = 13 :: 10 :: endsN 1 0 (n - 1)
    unfold endsN
    rw [if_neg (by omega)]
    obtain ⟨k, rfl⟩ : ∃ k, n = k + 1 := ⟨n - 1, by omega⟩
    rw [show (k + 1) * 1 + 0 = k + 1 by omega, crlf_succ]
    simp only [Nat.add_sub_cancel]
    by_cases hk : k = 0
    · subst hk; rfl
    · rw [if_neg hk]; congr 3; omega
  | cons r rs ih =>
    intro n hn
    rw [tl, tl]
    by_cases hr : r = []
    · rw [if_pos hr, if_pos hr]; exact ih (n + 1) (by omega)
    · rw [if_neg hr, if_neg hr]
      unfold endsN
      rw [if_neg (by omega), if_neg (by omega), show (n + 1) * 1 + 0 = n + 1 by omega, show n * 1 + 0 = n by omega, crlf_succ]
      rfl

theorem tl_one (r : List Nat) (rs : List (List Nat)) : tl (endsN 1 0) (rowT 0) 1 (r :: rs) = 13 :: 10 :: (r ++ tl (endsN 1 0) (rowT 0) 1 rs) := by
  rw [tl]
  by_cases hr : r = []
  · rw [if_pos hr, hr]; exact tl_succ rs 1 (Nat.le_refl _)
  · rw [if_neg hr, rowT_zero]; rfl

theorem nf_tl : ∀ (p : Bool) (l : List Nat) (r : List Nat) (rs : List (List Nat)), rwf p l = r :: rs → nf p l = r ++ tl (endsN 1 0) (rowT 0) 1 rs
  | _, [], r, rs, e => by
    rw [rwf] at e; cases e; rfl
  | p, c :: t, r, rs, e => by
    rw [rwf] at e
    rw [nf]
    split at e
    · rename_i h13
      cases e
      rw [if_pos h13]
      obtain ⟨r', rs', e'⟩ := rwf_ne true t
      rw [nf_tl true t r' rs' e', e', tl_one]; rfl
    · rename_i h13
      rw [if_neg h13]
      split at e
      · rename_i h10
        rw [if_pos h10]
        split at e
        · rename_i hp; rw [if_pos hp]; exact nf_tl false t r rs e
        · rename_i hp
          cases e
          rw [if_neg hp]
          obtain ⟨r', rs', e'⟩ := rwf_ne false t
          rw [nf_tl false t r' rs' e', e', tl_one]; rfl
      · rename_i h10
        rw [if_neg h10]
        obtain ⟨r', rs', e'⟩ := rwf_ne false t
        rw [e'] at e
        cases e
        rw [nf_tl false t r' rs e']; rfl

theorem nf_rows (l : List Nat) : nf false l = tl (endsN 1 0) (rowT 0) 0 (rwf false l) := by
  obtain ⟨r, rs, e⟩ := rwf_ne false l
  rw [nf_tl false l r rs e, e, tl]
  by_cases hr : r = []
  · rw [if_pos hr, hr]; rfl
  · rw [if_neg hr, rowT_zero]; rfl

-- P3
theorem df_crlf : ∀ (k : Nat) (b : Bool) (rest : List Nat), df b (crlf k ++ rest) = crlf k ++ df (if k = 0 then b else true) rest
  | 0, b, rest => rfl
  | k + 1, b, rest => by
    rw [crlf_succ]
    show df b (13 :: 10 :: (crlf k ++ rest)) = _
    rw [df, if_neg (by simp), df, if_neg (by simp), df_crlf k _ rest]
    by_cases hk : k = 0
    · subst hk; simp
    · simp [hk]

theorem df_clean : ∀ (u rest : List Nat), (∀ c ∈ u, c ≠ 10) → df false (u ++ rest) = u ++ df false rest
  | [], _, _ => rfl
  | c :: u, rest, h => by
    have hc : c ≠ 10 := h c (.head _)
    show df false (c :: (u ++ rest)) = _
    rw [df, if_neg (by simp), beq_eq_false_iff_ne.mpr hc, df_clean u rest (fun d hd => h d (.tail _ hd))]; rfl

theorem df_row (d : Nat) (r rest : List Nat) (hr : r ≠ []) (hc : clean r) : df true (rowT d r ++ rest) = rowT (d + 1) r ++ df false rest := by
  cases r with
  | nil => exact absurd rfl hr
  | cons c u =>
    have hu : ∀ x ∈ u, x ≠ 10 := fun x hx => (hc x (.tail _ hx)).1
    unfold rowT
    by_cases h46 : c = 46
    · subst h46
      have hh : (46 :: u).head? = some 46 := rfl
      rw [if_pos hh, if_pos hh]
      have e : List.replicate d 46 ++ 46 :: u = 46 :: (List.replicate d 46 ++ u) := by
        rw [← List.cons_append, ← List.replicate_succ, List.replicate_succ', List.append_assoc]; rfl
      rw [e]
      show df true (46 :: (List.replicate d 46 ++ u ++ rest)) = _
      rw [df, if_pos ⟨rfl, rfl⟩, df_clean (List.replicate d 46 ++ u) rest (fun x hx => by
        rcases List.mem_append.mp hx with q | q
        · rw [List.eq_of_mem_replicate q]; decide
        · exact hu x q)]
      rw [List.replicate_succ, List.cons_append, e]
      simp
    · have hh : ¬ ((c :: u).head? = some 46) := by simpa using h46
      rw [if_neg hh, if_neg hh]
      show df true (c :: (u ++ rest)) = _
      rw [df, if_neg (fun q => h46 q.2), beq_eq_false_iff_ne.mpr (hc c (.head _)).1, df_clean u rest hu]; rfl

theorem df_tl (t m d : Nat) (ht : 1 ≤ t) : ∀ (rows : List (List Nat)) (n : Nat) (b : Bool), (∀ r ∈ rows, clean r) → (b = true ∨ 1 ≤ n) → df b (tl (endsN t m) (rowT d) n rows) = tl (endsN t m) (rowT (d + 1)) n rows
  | [], n, b, _, _ => by
    show df b (endsN t m (n - 1)) = endsN t m (n - 1)
    unfold endsN
    have := df_crlf (if n - 1 = 0 then 0 else (n - 1) * t + m) b []
    simpa [df] using this
  | r :: rs, n, b, hc, hb => by
    rw [tl, tl]
    by_cases hr : r = []
    · rw [if_pos hr, if_pos hr]
      exact df_tl t m d ht rs (n + 1) b (fun x hx => hc x (.tail _ hx)) (.inr (by omega))
    · rw [if_neg hr, if_neg hr]
      have hk : (if (if n = 0 then 0 else n * t + m) = 0 then b else true) = true := by
        by_cases hn : n = 0
        · rw [if_pos hn, if_pos rfl]; exact hb.resolve_right (by omega)
        · rw [if_neg hn, if_neg]
          have : 1 ≤ n * t := Nat.mul_pos (by omega) (by omega)
          omega
      rw [List.append_assoc, List.append_assoc]
      unfold endsN
      rw [df_crlf, hk, df_row d r _ hr (hc r (.head _))]
      congr 2
      exact df_tl t m d ht rs 1 false (fun x hx => hc x (.tail _ hx)) (.inr (Nat.le_refl _))

-- P4
def ψ (f s : List Nat) (c : Nat) : List Nat := if c = 13 then f.flatMap (fun d => if d = 10 then s else [d]) else if c = 10 then s else [c]
def wordL (f s : List Nat) : List Nat := f.flatMap (fun d => if d = 10 then s else [d]) ++ s
def pow (w : List Nat) (k : Nat) : List Nat := (List.replicate k w).flatten
theorem pow_succ (w : List Nat) (k : Nat) : pow w (k + 1) = w ++ pow w k := by simp [pow, List.replicate_succ]

theorem rep_crlf (f s : List Nat) (k : Nat) : (crlf k).flatMap (ψ f s) = pow (wordL f s) k := by
  induction k with
  | zero => rfl
  | succ k ih =>
    rw [crlf_succ, pow_succ, List.flatMap_cons, List.flatMap_cons, ih, ← List.append_assoc]; rfl
theorem rep_clean (f s : List Nat) : ∀ (u : List Nat), clean u → u.flatMap (ψ f s) = u
  | [], _ => rfl
  | c :: u, h => by
    have hc := h c (.head _)
    rw [List.flatMap_cons, rep_clean f s u (fun d hd => h d (.tail _ hd))]
    unfold ψ
    rw [if_neg hc.2, if_neg hc.1]; rfl
theorem clean_rowT {d : Nat} {r : List Nat} (h : clean r) : clean (rowT d r) := by
  unfold rowT
  split
  · intro c hc
    rcases List.mem_append.mp hc with q | q
    · rw [List.eq_of_mem_replicate q]; decide
    · exact h c q
  · exact h
theorem rep_tl (f s : List Nat) (e : Nat → List Nat) (d : Nat) : ∀ (rows : List (List Nat)) (n : Nat), (∀ r ∈ rows, clean r) → (tl e (rowT d) n rows).flatMap (ψ f s) = tl (fun g => (e g).flatMap (ψ f s)) (rowT d) n rows
  | [], n, _ => rfl
  | r :: rs, n, hc => by
    rw [tl, tl]
    by_cases hr : r = []
    · rw [if_pos hr, if_pos hr]; exact rep_tl f s e d rs (n + 1) (fun x hx => hc x (.tail _ hx))
    · rw [if_neg hr, if_neg hr, List.flatMap_append, List.flatMap_append, rep_clean f s _ (clean_rowT (hc r (.head _))), rep_tl f s e d rs 1 (fun x hx => hc x (.tail _ hx))]

theorem nf_app : ∀ (p : Bool) (a : List Nat) (c : Nat) (b : List Nat), c ≠ 10 → c ≠ 13 → nf p (a ++ c :: b) = nf p a ++ c :: nf false b
  | p, [], c, b, h1, h2 => by
    show nf p (c :: b) = c :: nf false b
    conv => lhs; rw [nf]
    rw [if_neg h2, if_neg h1]
  | p, x :: a, c, b, h1, h2 => by
    show nf p (x :: (a ++ c :: b)) = nf p (x :: a) ++ _
    rw [nf, nf]
    split
    · rw [nf_app true a c b h1 h2]; rfl
    · split
      · split
        · exact nf_app false a c b h1 h2
        · rw [nf_app false a c b h1 h2]; rfl
      · rw [nf_app false a c b h1 h2]; rfl
theorem nf_clean : ∀ (u rest : List Nat), clean u → nf false (u ++ rest) = u ++ nf false rest
  | [], _, _ => rfl
  | c :: u, rest, h => by
    have hc := h c (.head _)
    show nf false (c :: (u ++ rest)) = _
    rw [nf, if_neg hc.2, if_neg hc.1, nf_clean u rest (fun d hd => h d (.tail _ hd))]; rfl
theorem nf_row (p : Bool) (a u rest : List Nat) (hu : u ≠ []) (hc : clean u) : nf p (a ++ u ++ rest) = nf p a ++ u ++ nf false rest := by
  cases u with
  | nil => exact absurd rfl hu
  | cons c u =>
    have h := hc c (.head _)
    rw [List.append_assoc]
    show nf p (a ++ c :: (u ++ rest)) = _
    rw [nf_app p a c _ h.1 h.2, nf_clean u rest (fun d hd => hc d (.tail _ hd))]; simp
theorem rowT_ne {d : Nat} {r : List Nat} (h : r ≠ []) : rowT d r ≠ [] := by
  unfold rowT
  split
  · simp [h]
  · exact h
theorem nf_tlG (e : Nat → List Nat) (d : Nat) : ∀ (rows : List (List Nat)) (n : Nat), (∀ r ∈ rows, clean r) → nf false (tl e (rowT d) n rows) = tl (fun g => nf false (e g)) (rowT d) n rows
  | [], n, _ => rfl
  | r :: rs, n, hc => by
    rw [tl, tl]
    by_cases hr : r = []
    · rw [if_pos hr, if_pos hr]; exact nf_tlG e d rs (n + 1) (fun x hx => hc x (.tail _ hx))
    · rw [if_neg hr, if_neg hr, nf_row false _ _ _ (rowT_ne hr) (clean_rowT (hc r (.head _))), nf_tlG e d rs 1 (fun x hx => hc x (.tail _ hx))]

def cnt : Bool → List Nat → Nat
  | _, [] => 0
  | p, c :: t => if c = 13 then 1 + cnt true t else (if p = true then 0 else 1) + cnt false t
def lst13 : Bool → List Nat → Bool
  | p, [] => p
  | _, c :: t => lst13 (c == 13) t
theorem nf_cnt : ∀ (p : Bool) (w : List Nat), (∀ c ∈ w, c = 10 ∨ c = 13) → nf p w = crlf (cnt p w)
  | _, [], _ => rfl
  | p, c :: t, h => by
    have ht := fun d hd => h d (.tail _ hd)
    rw [nf, cnt]
    by_cases h13 : c = 13
    · rw [if_pos h13, if_pos h13, nf_cnt true t ht, Nat.add_comm 1, crlf_succ]
    · have h10 : c = 10 := (h c (.head _)).resolve_right h13
      rw [if_neg h13, if_neg h13, if_pos h10, nf_cnt false t ht]
      split
      · rw [Nat.zero_add]
      · rw [Nat.add_comm 1, crlf_succ]
theorem cnt_app : ∀ (p : Bool) (a b : List Nat), (∀ c ∈ a, c = 10 ∨ c = 13) → cnt p (a ++ b) = cnt p a + cnt (lst13 p a) b
  | p, [], b, _ => by show cnt p b = 0 + cnt p b; omega
  | p, c :: a, b, h => by
    have ha := fun d hd => h d (.tail _ hd)
    show cnt p (c :: (a ++ b)) = cnt p (c :: a) + cnt (lst13 (c == 13) a) b
    rw [cnt, cnt]
    by_cases h13 : c = 13
    · rw [if_pos h13, if_pos h13, cnt_app true a b ha, beq_iff_eq.mpr h13]; omega
    · rw [if_neg h13, if_neg h13, cnt_app false a b ha, beq_eq_false_iff_ne.mpr h13]; omega
theorem lst13_ne : ∀ (w : List Nat) (p q : Bool), w ≠ [] → lst13 p w = lst13 q w
  | [], _, _, h => absurd rfl h
  | c :: t, p, q, _ => rfl
theorem cnt_pow {w : List Nat} {e sm : Nat} (hw : ∀ c ∈ w, c = 10 ∨ c = 13) (hne : w ≠ []) (h1 : cnt false w = e + sm) (h2 : cnt (lst13 false w) w = e) :
    ∀ k, cnt (lst13 false w) (pow w k) = k * e ∧ cnt false (pow w k) = if k = 0 then 0 else k * e + sm
  | 0 => ⟨by simp [pow, cnt], by simp [pow, cnt]⟩
  | k + 1 => by
    obtain ⟨i1, _⟩ := cnt_pow hw hne h1 h2 k
    rw [pow_succ, cnt_app _ _ _ hw, cnt_app _ _ _ hw, lst13_ne w (lst13 false w) false hne, h1, h2, i1, if_neg (by omega)]
    refine ⟨?_, ?_⟩
    · rw [Nat.add_mul]; omega
    · rw [Nat.add_mul]; omega

theorem nf_pow {w : List Nat} {e sm : Nat} (hw : ∀ c ∈ w, c = 10 ∨ c = 13) (hne : w ≠ []) (h1 : cnt false w = e + sm) (h2 : cnt (lst13 false w) w = e) (k : Nat) : nf false (pow w k) = crlf (if k = 0 then 0 else k * e + sm) := by
  rw [nf_cnt, (cnt_pow hw hne h1 h2 k).2]
  intro c hc
  unfold pow at hc
  obtain ⟨l, hl, hcl⟩ := List.mem_flatten.mp hc
  rw [List.eq_of_mem_replicate hl] at hcl
  exact hw c hcl

theorem round_tl {f s : List Nat} {e sm t m d : Nat} (hw : ∀ c ∈ wordL f s, c = 10 ∨ c = 13) (hne : wordL f s ≠ []) (h1 : cnt false (wordL f s) = e + sm) (h2 : cnt (lst13 false (wordL f s)) (wordL f s) = e) (ht : 1 ≤ t)
    (rows : List (List Nat)) (hc : ∀ r ∈ rows, clean r) :
    nf false ((tl (endsN t m) (rowT d) 0 rows).flatMap (ψ f s)) = tl (endsN (t * e) (m * e + sm)) (rowT d) 0 rows := by
  rw [rep_tl f s _ d rows 0 hc, nf_tlG _ d rows 0 hc]
  congr 1
  funext g
  unfold endsN
  rw [rep_crlf, nf_pow hw hne h1 h2]
  by_cases hg : g = 0
  · rw [if_pos hg, if_pos hg, if_pos rfl]
  · have hpos : 1 ≤ g * t := Nat.mul_pos (by omega) (by omega)
    rw [if_neg hg, if_neg hg, if_neg (by omega)]
    congr 1
    rw [Nat.add_mul, Nat.mul_assoc]; omega
end
end Mine
-- PureH
namespace Mine
section
open PySem PySem.W PyProof.Rows

theorem LL_append (a b : List Str) : LL (a ++ b) = LL a ++ LL b := by simp [LL]
theorem LL_flatMap (l : List Str) (g : Str → List Str) : LL (l.flatMap g) = l.flatMap fun a => LL (g a) := by
  simp [LL, List.map_flatMap]
theorem flatMap_of {l : List Str} {h : List Nat → List (List Nat)} : (l.flatMap fun a => h a.cps.toList) = (l.map (·.cps.toList)).flatMap h := by
  rw [List.flatMap_map]

theorem cr_list : (Str.ofString "\x0d").cps.toList = [13] := by decide +kernel
theorem lf_list : (Str.ofString "\n").cps.toList = [10] := by decide +kernel
theorem crlf_list : (Str.ofString "\x0d\n").cps.toList = [13, 10] := by decide +kernel

theorem split_cr (x : Str) : (Txt.split x (Str.ofString "\x0d")).map (·.cps.toList) = spl [13] 0 x.cps.toList := by
  rw [split_spl x _ (by decide +kernel) (by decide +kernel), cr_list]
theorem split_lf (x : Str) : (Txt.split x (Str.ofString "\n")).map (·.cps.toList) = spl [10] 0 x.cps.toList := by
  rw [split_spl x _ (by decide +kernel) (by decide +kernel), lf_list]
theorem split_crlf (x : Str) : (Txt.split x (Str.ofString "\x0d\n")).map (·.cps.toList) = spl [13, 10] 0 x.cps.toList := by
  rw [split_spl x _ (by decide +kernel) (by decide +kernel), crlf_list]

theorem rows_eq (x : Str) : LL (rowsS x) = rwf false x.cps.toList := by
  unfold rowsS
  rw [LL_flatMap]
  have e3 : ∀ z : Str, LL ((Txt.split z (Str.ofString "\n")).flatMap fun r => [r]) = spl [10] 0 z.cps.toList := by
    intro z
    have : ((Txt.split z (Str.ofString "\n")).flatMap fun r => [r]) = Txt.split z (Str.ofString "\n") := by simp
    rw [this]; exact split_lf z
  have e2 : ∀ y : Str, LL ((Txt.split y (Str.ofString "\x0d")).flatMap fun z => (Txt.split z (Str.ofString "\n")).flatMap fun r => [r]) = cut2 y.cps.toList := by
    intro y
    rw [LL_flatMap]
    simp only [e3]
    rw [flatMap_of (h := fun l => spl [10] 0 l), split_cr]; rfl
  simp only [e2]
  rw [flatMap_of (h := cut2), split_crlf]
  exact cuts_rows _

def joinL (z : List Nat) : List (List Nat) → List Nat
  | [] => []
  | [x] => x
  | x :: y :: r => x ++ z ++ joinL z (y :: r)
theorem join_list' (z : Str) : ∀ ys : List Str, (Str.join z ys).cps.toList = joinL z.cps.toList (ys.map (·.cps.toList))
  | [] => rfl
  | [x] => rfl
  | x :: y :: r => by
    show ((x ++ z) ++ Str.join z (y :: r)).cps.toList = _
    rw [Str.cps_append, Str.cps_append, Array.toList_append, Array.toList_append, join_list' z (y :: r)]
    rfl
theorem joinL_hdc (z : List Nat) (d : Nat) (r : List Nat) (rs : List (List Nat)) : joinL z ((d :: r) :: rs) = d :: joinL z (r :: rs) := by
  cases rs <;> rfl
theorem joinL_spl (z : List Nat) (c : Nat) : ∀ l : List Nat, joinL z (spl [c] 0 l) = l.flatMap fun d => if d = c then z else [d]
  | [] => rfl
  | d :: t => by
    rw [spl1_cons, List.flatMap_cons, ← joinL_spl z c t]
    obtain ⟨r, rs, e⟩ := spl_ne [c] 0 t
    rw [e]
    by_cases h : d = c
    · rw [if_pos h, if_pos h]; rfl
    · rw [if_neg h, if_neg h]; exact joinL_hdc z d r rs

theorem rep1_cr (x f : Str) : (rep1 x (Str.ofString "\x0d", f)).cps.toList = x.cps.toList.flatMap fun d => if d = 13 then f.cps.toList else [d] := by
  unfold rep1 Txt.join
  rw [StrLaws.glued_eq_join, join_list', split_cr, joinL_spl]
theorem rep1_lf (x f : Str) : (rep1 x (Str.ofString "\n", f)).cps.toList = x.cps.toList.flatMap fun d => if d = 10 then f.cps.toList else [d] := by
  unfold rep1 Txt.join
  rw [StrLaws.glued_eq_join, join_list', split_lf, joinL_spl]
theorem reps_eq (x f sc : Str) : (reps x [(Str.ofString "\x0d", f), (Str.ofString "\n", sc)]).cps.toList = x.cps.toList.flatMap (ψ f.cps.toList sc.cps.toList) := by
  show (rep1 (rep1 x (Str.ofString "\x0d", f)) (Str.ofString "\n", sc)).cps.toList = _
  rw [rep1_lf, rep1_cr, List.flatMap_assoc]
  congr 1
  funext d
  unfold ψ
  by_cases h : d = 13
  · rw [if_pos h, if_pos h]
  · rw [if_neg h, if_neg h]; simp

theorem word_eq (f sc : Str) : (wordOf f sc).cps.toList = wordL f.cps.toList sc.cps.toList := by
  unfold wordOf wordL cat
  rw [Str.cps_append, Array.toList_append, lf_list]
  simp only [List.map_append, List.map_map, List.map_cons, List.map_nil, List.flatten_append, List.flatten_cons, List.flatten_nil, List.append_nil, if_true]
  congr 1
  rw [List.flatMap_def]
  congr 1
  apply List.map_congr_left
  intro c _
  show (if c = 10 then sc else (⟨#[c]⟩ : Str)).cps.toList = _
  split <;> rfl

/-- what is so of the twelve words -/
def wordOk (f sc : Str) (e : Nat) : Bool :=
  decide ((wordOf f sc).length ≤ 500) && decide (0 < (wordOf f sc).length) && decide (((wordOf f sc).length : Int) - Txt.count (wordOf f sc) (Str.ofString "\x0d\n") - (seamOf (wordOf f sc) : Int) = (e : Nat)) &&
  decide (∀ c ∈ wordL f.cps.toList sc.cps.toList, c = 10 ∨ c = 13) && decide (wordL f.cps.toList sc.cps.toList ≠ []) && decide (cnt false (wordL f.cps.toList sc.cps.toList) = e + seamOf (wordOf f sc)) &&
  decide (cnt (lst13 false (wordL f.cps.toList sc.cps.toList)) (wordL f.cps.toList sc.cps.toList) = e) && decide (f.length ≤ 1) && decide (sc.length ≤ 2) && decide (seamOf (wordOf f sc) ≤ 1)
theorem words_ok : ∀ f ∈ firsts, ∀ sc ∈ seconds, wordOk f sc 1 = true ∨ wordOk f sc 2 = true := by decide +kernel
end
end Mine
-- Q01l
namespace Mine
section
open PySem PySem.W PyProof.Rows

section
variable {prog : Program} {w : World} {A : Around} {E : Value → Shared → Prop} {s : Shared} {env : Env}
theorem range_iter {K : Frag} {mg mb : Str → Option Value} {fp pos : Pos} {e : Expr} {Q : Value → Shared → Prop} (W : Wd K mg mb s.heap) (e1 : nsIn K mainGlobals (Str.ofString "range") = some none)
    (h : wpAny (model prog w) A (eval e env) (fun v s₁ => Keeps s s₁ ∧ ∃ (n : Nat) (t : Tok), v = .int (n : Nat) t ∧ n ≤ 100000 ∧
      ∀ s' I, Keeps s₁ s' → s₁.heap.get? I = none → IsRangeIter s'.heap I 0 n 1 → Q (.ref I) s') E s)
    (hg : env.globals = mainGlobals := by rfl) (hb : env.builtins = builtinsNs := by rfl) (hk : env.scope.kind = .function := by rfl) (hx : env.kindOf (Str.ofString "range") = some .globalImplicit := by rfl)
    (hs : starEach [e] env = [(false, eval e env)] := by rfl) :
    wpAny (model prog w) A (eval (.Call (.Name (Str.ofString "range") fp) [e] [] pos) env) (fun xv s₁ => wpAny (model prog w) A (pyIter xv) Q E s₁) E s := by
  refine Call_name1 hs (ldb W e1 boot_range (by decide) ?_ hg hb hk hx (by decide))
  refine callWith_type1 (wpAny_mono h (fun v s₁ h₁ => ?_) fun _ _ x => x)
  obtain ⟨k, n, t, rfl, hn, hQ⟩ := h₁
  refine call_range_1 ?_
  refine wpAny_pyIter_range (IsRange.new s₁.heap 0 n 1 _ _ _) (small_one (by omega) (by omega) (by omega) (by omega)) ?_
  have hsz : Builtin.Range.rangeSize 0 n 1 = (n : Int) := by
    rw [rangeSize_one]
    split <;> omega
  rw [hsz]
  refine hQ _ _ ⟨_, _, rfl, fun b o e => Heap.get?_push_of_some _ (Heap.get?_push_of_some _ e)⟩ ?_ (Heap.get?_push_size _ rfl)
  exact Heap.get?_none_of_le (by show _ ≤ (s₁.heap.push _).objs.size; rw [Heap.size_push]; exact Nat.le_succ _)
end

/-- the two figures behind i turns -/
def eachN (n : Int) : Nat := if wordOk (firstOf n) (secondOf n) 1 = true then 1 else 2
def seamN (n : Int) : Nat := seamOf (wordOf (firstOf n) (secondOf n))
def figs : List Int → Nat × Nat
  | [] => (1, 0)
  | n :: r => ((figs r).1 * eachN n, (figs r).2 * eachN n + seamN n)

theorem first_mem (n : Int) : firstOf n ∈ firsts := by
  unfold firstOf
  have h1 : 0 ≤ (n.fdiv 4096).fmod 3 := Int.fmod_nonneg_of_pos _ (by omega)
  have h2 : (n.fdiv 4096).fmod 3 < 3 := Int.fmod_lt_of_pos _ (by omega)
  have hk : ((n.fdiv 4096).fmod 3).toNat < firsts.length := by show _ < 3; omega
  rw [List.getD_eq_getElem?_getD, List.getElem?_eq_getElem hk]
  exact List.getElem_mem hk
theorem second_mem (n : Int) : secondOf n ∈ seconds := by
  unfold secondOf
  have h1 : 0 ≤ (n.fdiv 12288).fmod 4 := Int.fmod_nonneg_of_pos _ (by omega)
  have h2 : (n.fdiv 12288).fmod 4 < 4 := Int.fmod_lt_of_pos _ (by omega)
  have hk : ((n.fdiv 12288).fmod 4).toNat < seconds.length := by show _ < 4; omega
  rw [List.getD_eq_getElem?_getD, List.getElem?_eq_getElem hk]
  exact List.getElem_mem hk
theorem word_ok (n : Int) : wordOk (firstOf n) (secondOf n) (eachN n) = true := by
  unfold eachN
  rcases words_ok _ (first_mem n) _ (second_mem n) with h | h
  · rw [if_pos h]; exact h
  · split
    · assumption
    · exact h
theorem eachN_pos (n : Int) : 1 ≤ eachN n ∧ eachN n ≤ 2 := by unfold eachN; split <;> omega

structure WordOk (f sc : Str) (e : Nat) : Prop where
  len : (wordOf f sc).length ≤ 500
  pos : 0 < (wordOf f sc).length
  each : ((wordOf f sc).length : Int) - Txt.count (wordOf f sc) (Str.ofString "\x0d\n") - (seamOf (wordOf f sc) : Int) = (e : Nat)
  all : ∀ c ∈ wordL f.cps.toList sc.cps.toList, c = 10 ∨ c = 13
  ne : wordL f.cps.toList sc.cps.toList ≠ []
  c1 : cnt false (wordL f.cps.toList sc.cps.toList) = e + seamOf (wordOf f sc)
  c2 : cnt (lst13 false (wordL f.cps.toList sc.cps.toList)) (wordL f.cps.toList sc.cps.toList) = e
  f1 : f.length ≤ 1
  s2 : sc.length ≤ 2
  seam : seamOf (wordOf f sc) ≤ 1
theorem wordOk_of (n : Int) : WordOk (firstOf n) (secondOf n) (eachN n) := by
  have h := word_ok n
  unfold wordOk at h
  simp only [Bool.and_eq_true, decide_eq_true_eq] at h
  obtain ⟨⟨⟨⟨⟨⟨⟨⟨⟨a1, a2⟩, a3⟩, a4⟩, a5⟩, a6⟩, a7⟩, a8⟩, a9⟩, a10⟩ := h
  exact ⟨a1, a2, a3, a4, a5, a6, a7, a8, a9, a10⟩

theorem quoted_start (x : Str) : quoted x = ⟨(tl (endsN 1 0) (rowT 1) 0 (LL (rowsS x))).toArray⟩ := by
  unfold quoted
  rw [nf_rows, rows_eq, df_tl 1 0 0 (Nat.le_refl _) _ 0 true (rwf_clean false _) (.inl rfl)]

theorem quoted_turn {t m d : Nat} {rows : List (List Nat)} (n : Int) (ht : 1 ≤ t) (hc : ∀ r ∈ rows, clean r) :
    quoted (reps ⟨(tl (endsN t m) (rowT d) 0 rows).toArray⟩ [(Str.ofString "\x0d", firstOf n), (Str.ofString "\n", secondOf n)]) =
      ⟨(tl (endsN (t * eachN n) (m * eachN n + seamN n)) (rowT (d + 1)) 0 rows).toArray⟩ := by
  have w := wordOk_of n
  unfold quoted
  rw [reps_eq, round_tl w.all w.ne w.c1 w.c2 ht rows hc]
  have : 1 ≤ t * eachN n := Nat.mul_pos ht (eachN_pos n).1
  rw [df_tl _ _ d this rows 0 true hc (.inl rfl)]; rfl

theorem flat_len {l : List Nat} {g : Nat → List Nat} {k : Nat} (h : ∀ c, (g c).length ≤ k) : (l.flatMap g).length ≤ k * l.length := by
  induction l with
  | nil => simp
  | cons c r ih =>
    rw [List.flatMap_cons, List.length_append, List.length_cons]
    have := h c
    rw [Nat.mul_add]; omega
theorem rep1_len {x f : Str} (hf : f.length ≤ 1) : (rep1 x (Str.ofString "\x0d", f)).length ≤ x.length := by
  have h := rep1_cr x f
  have e : (rep1 x (Str.ofString "\x0d", f)).cps.toList.length = (rep1 x (Str.ofString "\x0d", f)).length := by simp [Str.length]
  have e' : x.cps.toList.length = x.length := by simp [Str.length]
  have e'' : f.cps.toList.length = f.length := by simp [Str.length]
  rw [← e, h]
  have := flat_len (l := x.cps.toList) (g := fun d => if d = 13 then f.cps.toList else [d]) (k := 1) (fun c => by
    split
    · omega
    · exact Nat.le_refl 1)
  omega
theorem reps_len {x f sc : Str} (hf : f.length ≤ 1) (hs : sc.length ≤ 2) : (reps x [(Str.ofString "\x0d", f), (Str.ofString "\n", sc)]).length ≤ 2 * x.length := by
  have h1 := rep1_len (x := x) hf
  have h := rep1_lf (rep1 x (Str.ofString "\x0d", f)) sc
  have e : (rep1 (rep1 x (Str.ofString "\x0d", f)) (Str.ofString "\n", sc)).cps.toList.length = (rep1 (rep1 x (Str.ofString "\x0d", f)) (Str.ofString "\n", sc)).length := by simp [Str.length]
  have e' : (rep1 x (Str.ofString "\x0d", f)).cps.toList.length = (rep1 x (Str.ofString "\x0d", f)).length := by simp [Str.length]
  have e'' : sc.cps.toList.length = sc.length := by simp [Str.length]
  show (rep1 (rep1 x (Str.ofString "\x0d", f)) (Str.ofString "\n", sc)).length ≤ _
  rw [← e, h]
  have := flat_len (l := (rep1 x (Str.ofString "\x0d", f)).cps.toList) (g := fun d => if d = 10 then sc.cps.toList else [d]) (k := 2) (fun c => by
    split
    · omega
    · show 1 ≤ 2; omega)
  omega
theorem quoted_len (x : Str) : (quoted x).length ≤ 4 * x.length := by
  unfold quoted
  show (df true (nf false x.cps.toList)).toArray.size ≤ _
  rw [List.size_toArray]
  have h1 := df_len true (nf false x.cps.toList)
  have h2 := nf_len false x.cps.toList
  have e' : x.cps.toList.length = x.length := by simp [Str.length]
  omega
end
end Mine
-- Q01m
namespace Mine
section
open PySem PySem.W PyProof.Rows

theorem figs_le : ∀ r : List Int, 1 ≤ (figs r).1 ∧ (figs r).1 ≤ 2 ^ r.length ∧ (figs r).2 + 1 ≤ 2 ^ r.length
  | [] => ⟨by decide, by decide, by decide⟩
  | n :: r => by
    obtain ⟨h1, h2, h3⟩ := figs_le r
    obtain ⟨e1, e2⟩ := eachN_pos n
    have hs : seamN n ≤ 1 := (wordOk_of n).seam
    show 1 ≤ (figs r).1 * eachN n ∧ (figs r).1 * eachN n ≤ 2 ^ (r.length + 1) ∧ (figs r).2 * eachN n + seamN n + 1 ≤ 2 ^ (r.length + 1)
    rw [Nat.pow_succ]
    refine ⟨Nat.mul_pos h1 e1, Nat.mul_le_mul h2 e2, ?_⟩
    have := Nat.mul_le_mul (Nat.le_refl (figs r).2) e2
    omega

section
variable {w : World} {A : Around} {E : Value → Shared → Prop} {s : Shared} {mg mb : Str → Option Value} {h₀ : Heap} {L fa : Addr} {cd : Value} {m : Str → Option Value} {cv : Option Value}

/-- what holds between the turns -/
def Turn (h₀ : Heap) (L Dd Dr : Addr) (its : Array Value) (ns : List Int) (rows : List Str) (s₀ : Shared) (i : Nat) (s' : Shared) : Prop :=
  ∃ (m' : Str → Option Value) (cv' : Option Value) (tk1 tk2 tk3 : Tok), LS h₀ L m' cv' s'.heap ∧ m' "drawn" = some (.ref Dd) ∧ m' "rows" = some (.ref Dr) ∧
    m' "letter" = some (.str ⟨(tl (endsN (figs (ns.take i).reverse).1 (figs (ns.take i).reverse).2) (rowT (i + 1)) 0 (LL rows)).toArray⟩ tk1) ∧
    m' "times" = some (.int ((figs (ns.take i).reverse).1 : Nat) tk2) ∧ m' "more" = some (.int ((figs (ns.take i).reverse).2 : Nat) tk3) ∧
    s'.heap.IsList Dd its ∧ AccIs Dr rows s'.heap ∧ (tl (endsN (figs (ns.take i).reverse).1 (figs (ns.take i).reverse).2) (rowT (i + 1)) 0 (LL rows)).length ≤ 100 * 8 ^ i ∧
    ∃ h' tk, s' = { s₀ with heap := h', toks := tk }

theorem acc_ne {h : Heap} {D : Addr} {ys : List Str} (a : AccIs D ys h) : ∃ o, h.get? D = some o := by
  obtain ⟨_, ⟨o, ho, _⟩, _⟩ := a; exact ⟨o, ho⟩
theorem acc_upd {s s' : Shared} {L D : Addr} {ys : List Str} (a : AccIs D ys s.heap) (u : Upd L s s') (hne : D ≠ L) : AccIs D ys s'.heap := a.at fun o e => u.kept _ _ hne e
theorem list_upd {s s' : Shared} {L D : Addr} {its : Array Value} (a : s.heap.IsList D its) (u : Upd L s s') (hne : D ≠ L) : s'.heap.IsList D its := a.at fun o e => u.kept _ _ hne e
theorem cell_ne {h : Heap} {c D : Addr} {v : Option Value} {its : Array Value} (hc : h.IsCell c v) (hl : h.IsList D its) : D ≠ c := by
  rintro rfl
  obtain ⟨o, h1, h2⟩ := hc
  obtain ⟨o', h1', _, n, h2'⟩ := hl
  rw [h1] at h1'; cases h1'
  rw [h2] at h2'; cases h2'

theorem upds_of {s s' : Shared} {L : Addr} (u : Upd L s s') : Upds [L, L + 1] s s' := by
  obtain ⟨h', t, rfl, k⟩ := u
  exact ⟨h', t, rfl, fun b o n e => k b o (fun q => n (q ▸ .head _)) e⟩
theorem upds_of' {s s' : Shared} {L : Addr} (u : Upd (L + 1) s s') : Upds [L, L + 1] s s' := by
  obtain ⟨h', t, rfl, k⟩ := u
  exact ⟨h', t, rfl, fun b o n e => k b o (fun q => n (q ▸ .tail _ (.head _))) e⟩

set_option maxHeartbeats 1000000 in
theorem turn_body {Dd Dr : Addr} {its : Array Value} {ns : List Int} {rows : List Str} {i t mo : Nat} {n : Int} {tk1 tk2 tk3 tk4 : Tok} {Q : Flow → Shared → Prop} (W : Wd (KK w) mg mb h₀) (hroom : A.depth + 1 < recursionLimit) (hh : A.handled = none)
    (hi : IntsAre its.toList ns) (hn : ns.length = 8) (hr : 0 ≤ n ∧ n < 1000000) (hclean : ∀ r ∈ LL rows, clean r) (hrows : rows.length ≤ 900) (hin : ns[i]? = some n) (hi3 : i < 3)
    (S : LS h₀ L m cv s.heap) (a0 : m "turn" = some (.int (i : Nat) tk4)) (a1 : m "drawn" = some (.ref Dd)) (a2 : m "rows" = some (.ref Dr)) (a3 : m "letter" = some (.str ⟨(tl (endsN t mo) (rowT (i + 1)) 0 (LL rows)).toArray⟩ tk1))
    (a4 : m "times" = some (.int (t : Nat) tk2)) (a5 : m "more" = some (.int (mo : Nat) tk3)) (a6 : s.heap.IsList Dd its) (a7 : AccIs Dr rows s.heap) (a8 : (tl (endsN t mo) (rowT (i + 1)) 0 (LL rows)).length ≤ 100 * 8 ^ i)
    (ht : 1 ≤ t) (ht2 : t ≤ 100) (hm2 : mo ≤ 100)
    (h : ∀ s' m' cv' u1 u2 u3, LS h₀ L m' cv' s'.heap → m' "drawn" = some (.ref Dd) → m' "rows" = some (.ref Dr) →
      m' "letter" = some (.str ⟨(tl (endsN (t * eachN n) (mo * eachN n + seamN n)) (rowT (i + 2)) 0 (LL rows)).toArray⟩ u1) → m' "times" = some (.int ((t * eachN n : Nat) : Int) u2) → m' "more" = some (.int ((mo * eachN n + seamN n : Nat) : Int) u3) →
      s'.heap.IsList Dd its → AccIs Dr rows s'.heap → (tl (endsN (t * eachN n) (mo * eachN n + seamN n)) (rowT (i + 2)) 0 (LL rows)).length ≤ 100 * 8 ^ (i + 1) → Upds [L, L + 1] s s' → Q .next s') :
    wpAny (model PP w) A (execs (fbody PP) (lenv L fa cd)) Q E s := by
  have w₀ := wordOk_of n
  have hnL : ∀ {h' : Heap} {m'' : Str → Option Value}, LS h₀ L m'' cv h' → True := fun _ => trivial
  have hpow : 100 * 8 ^ i ≤ 6400 := by
    have : 8 ^ i ≤ 8 ^ 2 := Nat.pow_le_pow_right (by decide) (by omega)
    omega
  obtain ⟨e1, e2⟩ := eachN_pos n
  have hs1 : seamN n ≤ 1 := w₀.seam
  have hxl : (⟨(tl (endsN t mo) (rowT (i + 1)) 0 (LL rows)).toArray⟩ : Str).length ≤ 100 * 8 ^ i := by
    show (tl (endsN t mo) (rowT (i + 1)) 0 (LL rows)).toArray.size ≤ _
    rw [List.size_toArray]; exact a8
  have hq := quoted_turn (t := t) (m := mo) (d := i + 1) n ht hclean
  have hql := quoted_len (reps ⟨(tl (endsN t mo) (rowT (i + 1)) 0 (LL rows)).toArray⟩ [(Str.ofString "\x0d", firstOf n), (Str.ofString "\n", secondOf n)])
  have hrl := reps_len (x := ⟨(tl (endsN t mo) (rowT (i + 1)) 0 (LL rows)).toArray⟩) w₀.f1 w₀.s2
  have hr1 := rep1_len (x := ⟨(tl (endsN t mo) (rowT (i + 1)) 0 (LL rows)).toArray⟩) w₀.f1
  have hfit : (tl (endsN (t * eachN n) (mo * eachN n + seamN n)) (rowT (i + 2)) 0 (LL rows)).length ≤ 100 * 8 ^ (i + 1) := by
    have e : (quoted (reps ⟨(tl (endsN t mo) (rowT (i + 1)) 0 (LL rows)).toArray⟩ [(Str.ofString "\x0d", firstOf n), (Str.ofString "\n", secondOf n)])).length = (tl (endsN (t * eachN n) (mo * eachN n + seamN n)) (rowT (i + 2)) 0 (LL rows)).length := by
      rw [hq]
      show (tl _ _ 0 (LL rows)).toArray.size = _
      rw [List.size_toArray]
    rw [← e, Nat.pow_succ]; omega
  have ht' : t * eachN n ≤ 200 := by
    have := Nat.mul_le_mul ht2 e2; omega
  have hm' : mo * eachN n ≤ 200 := by
    have := Nat.mul_le_mul hm2 e2; omega
  have hDdL : Dd ≠ L := ne_list S.fr.ns a6
  have hDdC : Dd ≠ L + 1 := cell_ne S.cell a6
  have hDrL : Dr ≠ L := by obtain ⟨_, hl, _⟩ := a7; exact ne_list S.fr.ns hl
  have hDrC : Dr ≠ L + 1 := by obtain ⟨_, hl, _⟩ := a7; exact cell_ne S.cell hl
  have keepD : ∀ {s' : Shared}, Upds [L, L + 1] s s' → s'.heap.IsList Dd its := fun u => a6.at fun o e => u.kept _ _ (by simp [hDdL, hDdC]) e
  have keepR : ∀ {s' : Shared}, Upds [L, L + 1] s s' → AccIs Dr rows s'.heap := fun u => a7.at fun o e => u.kept _ _ (by simp [hDrL, hDrC]) e
  refine wpAny_execs_cons (st := ltn PP 0) ?_
  refine law_t0 S a1 a6 hi a0 hin hr (by omega) fun t1 s₁ S₁ u₁ => ?_
  have v₁ := upds_of u₁
  refine wpAny_execs_cons (st := ltn PP 1) ?_
  refine law_t1 S₁ a1 (keepD v₁) hi a0 hin hr (by omega) fun t2 s₂ S₂ u₂ => ?_
  have v₂ := v₁.trans (upds_of' u₂)
  refine wpAny_execs_cons (st := ltn PP 2) ?_
  refine law_t2 (f := firstOf n) (sc := secondOf n) W S₂ (by omega) a3 rfl ?_ (by omega) fun t3 s₃ S₃ u₃ => ?_
  · have hc1 : ((Str.ofString "\x0d").length == 0) = false := by decide +kernel
    have hc2 : ((Str.ofString "\n").length == 0) = false := by decide +kernel
    refine ⟨by omega, hc1, by have := w₀.f1; show (firstOf n).length ≤ 1000; omega, ?_, hc2, by have := w₀.s2; show (secondOf n).length ≤ 1000; omega, trivial⟩
    omega
  rw [hq] at S₃
  have v₃ := v₂.trans (upds_of u₃)
  refine wpAny_execs_cons (st := ltn PP 3) ?_
  refine law_t3 (f := firstOf n) (sc := secondOf n) S₃ hh rfl (by have := w₀.f1; omega) (by have := w₀.s2; omega) fun t4 s₄ S₄ u₄ => ?_
  have v₄ := v₃.trans (upds_of u₄)
  refine wpAny_execs_cons (st := ltn PP 4) ?_
  refine law_t4 S₄ rfl w₀.pos w₀.len fun t5 s₅ S₅ u₅ => ?_
  have v₅ := v₄.trans (upds_of u₅)
  refine wpAny_execs_cons (st := ltn PP 5) ?_
  refine law_t5 W S₅ rfl rfl w₀.len w₀.each fun t6 s₆ S₆ u₆ => ?_
  have v₆ := v₅.trans (upds_of u₆)
  refine wpAny_execs_cons (st := ltn PP 6) ?_
  refine law_t6 S₆ hh a4 a5 rfl rfl (by omega) (by omega) fun t7 t8 s₇ S₇ u₇ => ?_
  have v₇ := v₆.trans (upds_of u₇)
  refine wpAny_execs_cons (st := ltn PP 7) ?_
  have hbig : 100 * 8 ^ (i + 1) ≤ 1000000 := by rw [Nat.pow_succ]; omega
  refine law_t7 W S₇ hroom hh rfl a2 rfl rfl a0 (keepR v₇) hrows (by omega) (by show mo * eachN n + seamN n ≤ 1000; omega) (by omega) (by show (tl _ _ 0 (LL rows)).length ≤ _; exact Nat.le_trans hfit hbig) fun s₈ k₈ => ?_
  have v₈ := v₇.trans (Upds.of k₈)
  exact wpAny_execs_nil (h s₈ _ _ _ _ _ (S₇.keeps (kp_kept k₈)) a1 a2 rfl rfl rfl (keepD v₈) (keepR v₈) hfit v₈)

set_option maxHeartbeats 1000000 in
theorem law_s7 {Dd Dr : Addr} {its : Array Value} {ns : List Int} {rows : List Str} {Q : Flow → Shared → Prop} (W : Wd (KK w) mg mb h₀) (hroom : A.depth + 1 < recursionLimit) (hh : A.handled = none)
    (hi : IntsAre its.toList ns) (hn : ns.length = 8) (hr : ∀ n ∈ ns, 0 ≤ n ∧ n < 1000000) (hclean : ∀ r ∈ LL rows, clean r) (hrows : rows.length ≤ 900)
    (hT : Turn h₀ L Dd Dr its ns rows s 0 s)
    (h : ∀ s', Turn h₀ L Dd Dr its ns rows s 3 s' → Q .next s') :
    wpAny (model PP w) A (exec (lst PP 7) (lenv L fa cd)) Q E s := by
  have hW : Wd (KK w) mg mb s.heap := by
    obtain ⟨m', cv', _, _, _, S, _⟩ := hT
    exact W.keeps S.fr.keep
  refine for_walk ?_
  refine range_iter hW (by rfl) ?_
  refine wpAny_Constant_int ⟨kp_toks s _, 3, _, rfl, by omega, fun s₁ I k₁ hI hit => ?_⟩
  have k₁' : Keeps s s₁ := kp_step k₁
  have hI' : s.heap.get? I = none := hI
  have stab : ∀ i (s₃ : Shared) h' tk, Turn h₀ L Dd Dr its ns rows s i s₃ → (∀ b o, b ≠ I → s₃.heap.get? b = some o → h'.get? b = some o) → Turn h₀ L Dd Dr its ns rows s i { s₃ with heap := h', toks := tk } := by
    rintro i s₃ h' tk ⟨m', cv', tk1, tk2, tk3, S, a1, a2, a3, a4, a5, a6, a7, a8, h3, t3, rfl⟩ hk
    obtain ⟨m₀, cv₀, _, _, _, S₀, _, _, _, _, _, b6, b7, _⟩ := id hT
    have neI : ∀ {a : Addr} {o : Obj}, s.heap.get? a = some o → a ≠ I := fun ha q => by rw [q, hI'] at ha; cases ha
    obtain ⟨oL, _, _, hoL, _⟩ := S₀.fr.ns
    obtain ⟨oC, hoC, _⟩ := S₀.cell
    obtain ⟨oD, hoD, _⟩ := b6
    obtain ⟨oR, hoR⟩ := acc_ne b7
    refine ⟨m', cv', tk1, tk2, tk3, ⟨⟨S.fr.ns.at' fun o e => hk _ o (neI hoL) e, fun b o e => hk b o (neI (S₀.fr.keep b o e)) (S.fr.keep b o e), S.fr.above⟩, ?_⟩, a1, a2, a3, a4, a5, a6.at fun o e => hk _ o (neI hoD) e, a7.at fun o e => hk _ o (neI hoR) e, a8, _, _, rfl⟩
    obtain ⟨oc, hoc, hdc⟩ := S.cell
    exact ⟨oc, hk _ oc (neI hoC) hoc, hdc⟩
  refine ⟨I, _, _, _, _, _, Turn h₀ L Dd Dr its ns rows s, rfl, Walks.range hh I 0 1 3, ?_, ?_, ?_, ?_, h⟩
  · show IsRangeIter s₁.heap I (0 + ((0 : Nat) : Int) * 1) (((3 : Nat) : Int) - ((0 : Nat) : Int)) 1
    simpa using hit
  · obtain ⟨h1, t1, rfl, kk1⟩ := k₁'
    exact stab 0 s h1 t1 hT (fun b o _ e => kk1 b o e)
  · intro i s₃ h' tk hJ hk
    exact stab i s₃ h' tk hJ (fun b o hb e => hk b o (by simpa using hb) e)
  · rintro i v s₃ E' hi3 ⟨tv, rfl⟩ hJ hSt
    obtain ⟨m', cv', tk1, tk2, tk3, S, a1, a2, a3, a4, a5, a6, a7, a8, hh3, t3, rfl⟩ := hJ
    obtain ⟨m₀, cv₀, _, _, _, S₀, _⟩ := id hT
    have neI : ∀ {a : Addr} {o : Obj}, s.heap.get? a = some o → I ≠ a := fun ha q => by rw [← q, hI'] at ha; cases ha
    obtain ⟨oL, _, _, hoL, _⟩ := S₀.fr.ns
    obtain ⟨oC, hoC, _⟩ := S₀.cell
    have hilt : i < ns.length := by omega
    have hin : ns[i]? = some ns[i] := List.getElem?_eq_getElem hilt
    obtain ⟨f1, f2, f3⟩ := figs_le (ns.take i).reverse
    have hlen : (ns.take i).reverse.length = i := by rw [List.length_reverse, List.length_take]; omega
    rw [hlen] at f2 f3
    have hp : 2 ^ i ≤ 2 ^ 2 := Nat.pow_le_pow_right (by decide) (by omega)
    have htake : (ns.take (i + 1)).reverse = ns[i] :: (ns.take i).reverse := by
      rw [List.take_add_one, hin]; simp
    have ei : (0 : Int) + (i : Int) * 1 = ((i : Nat) : Int) := by omega
    rw [ei]
    refine wpAny_assign_Name (stLS S fun s₄ S₄ u₄ => ?_)
    refine turn_body (n := ns[i]) W hroom hh hi hn (hr _ (List.getElem_mem hilt)) hclean hrows hin hi3 S₄ rfl a1 a2 a3 a4 a5 (list_upd a6 u₄ (ne_list S.fr.ns a6)) (acc_upd a7 u₄ ?_) a8 f1 (by omega) (by omega) ?_
    · obtain ⟨_, hl, _⟩ := a7; exact ne_list S.fr.ns hl
    · intro s₅ m₅ cv₅ u1 u2 u3 S₅ b1 b2 b3 b4 b5 b6 b7 b8 v₅
      have vv := (upds_of u₄).trans v₅
      refine ⟨⟨m₅, cv₅, u1, u2, u3, S₅, b1, b2, ?_, ?_, ?_, b6, b7, ?_, ?_⟩, ?_⟩
      · rw [htake]; exact b3
      · rw [htake]; exact b4
      · rw [htake]; exact b5
      · rw [htake]; exact b8
      · obtain ⟨_, _, rfl, _⟩ := vv; exact ⟨_, _, rfl⟩
      · exact vv.kept _ _ (by simp [neI hoL, neI hoC]) hSt
end
end
end Mine
-- Q01n
namespace Mine
section
open PySem PySem.W PyProof.Rows

theorem drawn_len (ns : List Int) : (drawn1 ns).length = 8 := by
  unfold drawn1
  rw [List.length_map, List.length_take, List.length_append]
  show min 8 (ns.length + 8) = 8
  omega
theorem drawn_range (ns : List Int) : ∀ n ∈ drawn1 ns, 0 ≤ n ∧ n < 1000000 := by
  intro n hn
  unfold drawn1 at hn
  obtain ⟨k, _, rfl⟩ := List.mem_map.mp hn
  exact ⟨Int.fmod_nonneg_of_pos _ (by omega), Int.fmod_lt_of_pos _ (by omega)⟩
theorem piece_len (n : Int) : (pieceOf n).length ≤ 2 := by
  unfold pieceOf
  have h1 : 0 ≤ n.fmod 8 := Int.fmod_nonneg_of_pos _ (by omega)
  have h2 : n.fmod 8 < 8 := Int.fmod_lt_of_pos _ (by omega)
  have d0 : (Str.ofString ".").length ≤ 2 := by decide +kernel
  have d1 : (Str.ofString "\x0d").length ≤ 2 := by decide +kernel
  have d2 : (Str.ofString "\n").length ≤ 2 := by decide +kernel
  have d3 : (Str.ofString "\n.").length ≤ 2 := by decide +kernel
  have d4 : (Str.ofString "a").length ≤ 2 := by decide +kernel
  have d5 : (Str.ofString "\x0d\n").length ≤ 2 := by decide +kernel
  have d6 : (Str.ofString "..").length ≤ 2 := by decide +kernel
  have d7 : (⟨#[((n.fdiv 8).fmod 55296).toNat]⟩ : Str).length ≤ 2 := by show 1 ≤ 2; omega
  rcases (by omega : (n.fmod 8).toNat = 0 ∨ (n.fmod 8).toNat = 1 ∨ (n.fmod 8).toNat = 2 ∨ (n.fmod 8).toNat = 3 ∨ (n.fmod 8).toNat = 4 ∨ (n.fmod 8).toNat = 5 ∨ (n.fmod 8).toNat = 6 ∨ (n.fmod 8).toNat = 7) with q | q | q | q | q | q | q | q <;> rw [q]
  · exact d0
  · exact d1
  · exact d2
  · exact d3
  · exact d4
  · exact d5
  · exact d6
  · exact d7
theorem pieces_sum : ∀ ns : List Int, ((ns.map pieceOf).map (·.length)).sum ≤ 2 * ns.length
  | [] => by simp
  | n :: r => by
    have h1 := pieces_sum r
    have h2 := piece_len n
    simp only [List.map_cons, List.sum_cons, List.length_cons] at *
    omega
theorem cat_len : ∀ ys : List Str, (cat ys).length = (ys.map (·.length)).sum
  | [] => rfl
  | y :: r => by
    have h := cat_len r
    have e : y.cps.toList.length = y.length := by simp [Str.length]
    show (y.cps.toList ++ cat r).length = _
    rw [List.length_append, h, e]; rfl

section
variable {w : World} {A : Around} {E : Value → Shared → Prop} {s : Shared} {mg mb : Str → Option Value} {h₀ : Heap} {L fa : Addr} {cd : Value} {m : Str → Option Value} {cv : Option Value}

set_option maxHeartbeats 1000000 in
theorem law_main {D₀ : Addr} {vs : List Value} {ns : List Int} (W : Wd (KK w) mg mb h₀) (hroom : A.depth + 1 < recursionLimit) (hh : A.handled = none) (S : LS h₀ L m cv s.heap) (hm : m "script" = some (.ref D₀)) (hD : s.heap.IsList D₀ vs.toArray) (hi : IntsAre vs ns) (hn : ns.length ≤ 63) :
    wpAny (model PP w) A (execs (lbody PP) (lenv L fa cd)) (fun f s' => f = .ret (.bool true) ∧ (∃ m', Fr h₀ L s'.heap m') ∧ ∃ h' tk, s' = { s with heap := h', toks := tk }) E s := by
  have hl8 := drawn_len ns
  have hrng := drawn_range ns
  have hsum := pieces_sum (drawn1 ns)
  rw [hl8] at hsum
  have hwl : (⟨(cat ((drawn1 ns).map pieceOf)).toArray⟩ : Str).length ≤ 16 := by
    show (cat ((drawn1 ns).map pieceOf)).toArray.size ≤ 16
    rw [List.size_toArray, cat_len]; omega
  have hrows : (rowsS ⟨(cat ((drawn1 ns).map pieceOf)).toArray⟩).length ≤ 17 := by
    have e := congrArg List.length (rows_eq ⟨(cat ((drawn1 ns).map pieceOf)).toArray⟩)
    have h1 := rwf_len false (⟨(cat ((drawn1 ns).map pieceOf)).toArray⟩ : Str).cps.toList
    have h2 : (⟨(cat ((drawn1 ns).map pieceOf)).toArray⟩ : Str).cps.toList.length = (⟨(cat ((drawn1 ns).map pieceOf)).toArray⟩ : Str).length := by simp [Str.length]
    unfold LL at e
    rw [List.length_map] at e
    omega
  refine wpAny_execs_cons (st := lst PP 0) ?_
  refine law_s0 S hh hm hD hi hn fun D₁ its₁ s₁ S₁ hD₁ hi₁ hs₁ => ?_
  refine wpAny_execs_cons (st := lst PP 1) ?_
  refine law_s1 W S₁ hh rfl hD₁ hi₁ (by omega) hrng fun D₂ its₂ s₂ S₂ hD₂ hi₂ hD₁' hs₂ => ?_
  generalize hpc : (drawn1 ns).map pieceOf = ps at *
  refine wpAny_execs_cons (st := lst PP 2) ?_
  refine law_s2 S₂ rfl hD₂ hi₂ (by omega) fun t₃ s₃ S₃ u₃ => ?_
  generalize hx : (⟨(cat ps).toArray⟩ : Str) = x at *
  have hD₁₃ := list_upd hD₁' u₃ (ne_list S₂.fr.ns hD₁')
  refine wpAny_execs_cons (st := lst PP 3) ?_
  refine law_s3 S₃ hh rfl (by omega) (by omega) fun D₄ s₄ S₄ ha₄ u₄ => ?_
  have hD₁₄ := list_upd hD₁₃ u₄ (ne_list S₃.fr.ns hD₁₃)
  refine wpAny_execs_cons (st := lst PP 4) ?_
  refine law_s4 W S₄ (by omega) rfl (by omega) fun t₅ s₅ S₅ u₅ => ?_
  rw [quoted_start] at S₅
  have hD₁₅ := list_upd hD₁₄ u₅ (ne_list S₄.fr.ns hD₁₄)
  have neR : D₄ ≠ L := by obtain ⟨_, hl, _⟩ := ha₄; exact ne_list S₄.fr.ns hl
  have ha₅ := acc_upd ha₄ u₅ neR
  refine wpAny_execs_cons (st := lst PP 5) ?_
  refine law_s5 S₅ hh fun t₆ t₆' s₆ S₆ u₆ => ?_
  have hD₁₆ := list_upd hD₁₅ u₆ (ne_list S₅.fr.ns hD₁₅)
  have ha₆ := acc_upd ha₅ u₆ neR
  have hfit : (tl (endsN 1 0) (rowT 1) 0 (LL (rowsS x))).length ≤ 64 := by
    have e : (quoted x).length = (tl (endsN 1 0) (rowT 1) 0 (LL (rowsS x))).length := by
      rw [quoted_start]
      show (tl _ _ 0 (LL (rowsS x))).toArray.size = _
      rw [List.size_toArray]
    have := quoted_len x
    omega
  refine wpAny_execs_cons (st := lst PP 6) ?_
  refine law_s6 (t := 1) (mo := 0) W S₆ hroom hh rfl rfl rfl rfl ha₆ (by omega) (by omega) (by omega) (by omega) fun s₇ k₇ => ?_
  have S₇ := S₆.keeps (kp_kept k₇)
  have hsame : ∃ h' tk, s₇ = { s with heap := h', toks := tk } := by
    obtain ⟨_, _, rfl⟩ := hs₁; obtain ⟨_, _, rfl⟩ := hs₂; obtain ⟨_, _, rfl, _⟩ := u₃; obtain ⟨_, _, rfl, _⟩ := u₄; obtain ⟨_, _, rfl, _⟩ := u₅; obtain ⟨_, _, rfl, _⟩ := u₆; obtain ⟨_, _, rfl, _⟩ := k₇
    exact ⟨_, _, rfl⟩
  refine wpAny_execs_cons (st := lst PP 7) ?_
  refine law_s7 (Dd := D₁) (Dr := D₄) (rows := rowsS x) W hroom hh hi₁ hl8 hrng ?_ (by omega) ?_ fun s₈ hT₈ => ?_
  · rw [rows_eq]; exact rwf_clean false _
  · refine ⟨_, _, _, _, _, S₇, rfl, rfl, rfl, rfl, rfl, hD₁₆.at fun o e => kp_kept k₇ _ _ e, ha₆.at fun o e => kp_kept k₇ _ _ e, ?_, s₇.heap, s₇.toks, rfl⟩
    show (tl (endsN 1 0) (rowT 1) 0 (LL (rowsS x))).length ≤ 100 * 8 ^ 0
    omega
  · obtain ⟨m₈, cv₈, _, _, _, S₈, _, _, _, _, _, _, _, _, h8, t8, rfl⟩ := hT₈
    refine wpAny_execs_cons ?_
    refine wpAny_Return_some (wpAny_Constant_bool ⟨rfl, ⟨m₈, S₈.fr⟩, ?_⟩)
    obtain ⟨_, _, rfl⟩ := hsame
    exact ⟨_, _, rfl⟩
end
end
end Mine
-- Q01z
open PySem PySem.W PyProof.Rows
set_option maxHeartbeats 8000000 in
theorem PySem.Challenge.cw_pg0010_01_holds : PySem.Challenge.rw_pg0010_01.Holds := by
  refine Mine.hd ?_
  w_on
  k_go0
  rename_i F ow hcell N0 X0
  rename (Mine.hd.heap_39 _).In _ => KX
  rename Top _ _ _ _ _ _ => T
  rename IntsAre _ _ => hI
  rename Heap.IsList _ _ _ => hL
  rename _ = #[] => hg
  rename (¬ _ < _) => hlen
  have W : Mine.Wd (Mine.KK _) _ _ _ := ⟨T.g, T.b, T.nolimit, T.builtins, KX⟩
  have S : Mine.LS _ _ _ _ _ := ⟨F, ow, (N0 _ (.head _)).1, hcell⟩
  refine wpAny_mono (Mine.law_main W (by show callerA.depth + 1 + 1 < recursionLimit; decide) rfl S rfl (hL.at fun o e => F.keep _ _ e) hI (by omega)) ?_ (fun _ _ h => h)
  rintro f s' ⟨rfl, ⟨m', F'⟩, h', tk, rfl⟩
  exact goodW_bool F' hg (raisesW_false (by wrow_none_raised)) (postW_of rfl rfl (by decide +kernel))
