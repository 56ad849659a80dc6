import PyProof.Rows.All
import Wide.All
import OpenK.AllK
import Wide.FinOn
import PyProof.AttrMissHeap
import PyProof.ExcArgs
import PyProof.Rows.KernelRfl
import PySem.Builtin.Sre.Common
import PySem.Challenge.RW_re0071_01
set_option rowWalk.seconds 0
-- part Hd
open PySem PySem.W PyProof.Rows
set_option Elab.async false
namespace Mine
set_option maxRecDepth 100000 in
set_option maxHeartbeats 8000000 in
open_top hd for PySem.Challenge.rw_re0071_01
end Mine

-- part Rx
namespace Mine
open PySem PySem.Sre PyProof.Rows
set_option maxRecDepth 100000

def tokC : Array Nat := #[14, 4, 0, 1, 4294967295, 6, 0, 24, 9, 0, 4294967295, 13, 4, 8, 12, 0, 1, 17, 0, 24, 19, 1, 4294967295, 13, 14, 21, 9, 0, 671092736, 0, 0, 0, 0, 0, 0, 8, 12, 0, 1, 17, 1, 1]
def quoC : Array Nat := #[14, 4, 0, 3, 4294967295, 6, 0, 24, 9, 0, 4294967295, 13, 4, 8, 12, 0, 1, 16, 61, 24, 9, 0, 4294967295, 13, 4, 8, 12, 0, 1, 16, 34, 17, 0, 24, 12, 0, 4294967295, 13, 7, 21, 16, 34, 16, 92, 0, 1, 23, 19, 0, 4294967295, 16, 92, 2, 24, 12, 0, 4294967295, 13, 7, 21, 16, 34, 16, 92, 0, 1, 18, 17, 1, 16, 34, 1]
def valC : Array Nat := #[14, 4, 0, 1, 4294967295, 6, 0, 24, 9, 0, 4294967295, 13, 4, 8, 12, 0, 1, 16, 61, 24, 9, 0, 4294967295, 13, 4, 8, 12, 0, 1, 17, 0, 24, 14, 0, 4294967295, 13, 9, 21, 8, 12, 16, 59, 16, 44, 0, 1, 17, 1, 1]
def escC : Array Nat := #[14, 8, 1, 2, 2, 1, 1, 92, 0, 16, 92, 17, 0, 2, 17, 1, 1]
def jtokC : Array Nat := #[14, 4, 0, 1, 4294967295, 24, 16, 1, 4294967295, 13, 11, 9, 0, 67071226, 3355443198, 1476395007, 0, 0, 0, 0, 0, 1, 1]
def jescC : Array Nat := #[14, 9, 4, 1, 1, 16, 34, 16, 92, 0, 17, 0, 13, 6, 16, 34, 16, 92, 0, 17, 1, 1]
def junkC : Array Nat := #[14, 4, 0, 0, 4294967295, 6, 0, 24, 13, 0, 4294967295, 13, 8, 16, 61, 8, 12, 16, 59, 0, 1, 1]

/-- what a search gives: matched, where it began, where it ended, its marks -/
structure Fd where
  yes : Bool
  start : Nat
  fin : Nat
  marks : List (Option Nat)
  lastmark : Int
  lastindex : Int
deriving DecidableEq, Repr

def fdOf (m : M) : Option Fd := match m.outcome with
  | some .matched => some ⟨true, m.start, m.handed, m.marks.toList, m.lastmark, m.lastindex⟩
  | some .failed => some ⟨false, 0, 0, [], 0, 0⟩
  | _ => none

def cps (s : String) : Array Nat := (s.toList.map Char.toNat).toArray
def srch (c : Array Nat) (g : Nat) (t : Array Nat) (n : Nat) : Option Fd := fdOf (M.runFor n (forSearch c t g 0 t.size false))

def key (m : M) : Array Nat × Array Nat × Nat × Nat := (m.code, m.text, m.lim, m.lastStart)
theorem say_key (m : M) (b : Bool) : key (m.say b) = key m := rfl
theorem stick_key (m : M) (w : String) : key (m.stick w) = key m := rfl
theorem putBack_key (m : M) (k : PySem.Sre.Kept) : key (m.putBack k) = key m := rfl
theorem attempt_key (m : M) (f : Sre.Frame) (a b : Nat) (o : Bool) : key (m.attempt f a b o) = key m := by
  unfold M.attempt; split <;> rfl
theorem setLoop_key (m : M) (i : Nat) (f : Loop → Loop) : key (m.setLoop i f) = key m := rfl
theorem mark_key (m : M) (i : Nat) : key (m.mark i) = key m := rfl
theorem alternative_key (m : M) (a : Nat) (k : PySem.Sre.Kept) : key (m.alternative a k) = key m := by
  unfold M.alternative; split
  · rfl
  · exact attempt_key ..
theorem afterRun_key (m : M) (w : Wait) (c : Int) (k : PySem.Sre.Kept) : key (m.afterRun w c k) = key m := attempt_key ..
theorem afterLoop_key (m : M) (w : Wait) (i : Nat) (c : Int) (h : Option Nat → Bool) : key (m.afterLoop w i c h) = key m := by
  unfold M.afterLoop; exact attempt_key ..
theorem round_key (m : M) (w : Wait) (i : Nat) (c : Int) (g : Bool) (k : PySem.Sre.Kept) : key (m.round w i c g k) = key m := by
  unfold M.round; exact attempt_key ..
theorem until_key (m : M) (g : Bool) : key (m.until_ g) = key m := by
  unfold M.until_; dsimp only; (repeat' split) <;> first | rfl | exact round_key .. | exact afterLoop_key ..
theorem possessive_key (m : M) (i : Nat) (c : Int) (b : Option Nat) : key (m.possessive i c b) = key m := by
  unfold M.possessive; dsimp only; (repeat' split) <;> first | rfl | exact attempt_key ..
theorem attemptAt_key (m : M) (s : Nat) (f : Bool) : key (m.attemptAt s f) = key m := by
  unfold M.attemptAt; exact attempt_key ..
theorem attemptFrom_key (m : M) (s : Nat) (f : Bool) : key (m.attemptFrom s f) = key m := by
  unfold M.attemptFrom; (repeat' split) <;> first | rfl | exact attemptAt_key ..
theorem resume_key (m : M) (f : Sre.Frame) (y : Bool) : key (m.resume f y) = key m := by
  unfold M.resume; dsimp only
  (repeat' split) <;> first | rfl | exact attemptFrom_key .. | exact alternative_key .. | exact afterRun_key .. | exact afterLoop_key .. | exact round_key .. | exact possessive_key ..
/-- a try of one sign: whatever it answers, the key stays -/
theorem item_key {c : Prop} [Decidable c] {m a : M} {e : Except String (Bool × PySem.Sre.Seen)} {f : String → M} {g h : PySem.Sre.Seen → M} (ha : key a = key m) (hf : ∀ w, key (f w) = key m) (hg : ∀ s, key (g s) = key m) (hh : ∀ s, key (h s) = key m) :
    key (if c then a else match e with | .error w => f w | .ok (false, s) => g s | .ok (true, s) => h s) = key m := by
  split
  · exact ha
  · split
    · exact hf _
    · exact hg _
    · exact hh _
theorem exec_key (m : M) : key m.exec = key m := by
  unfold M.exec; dsimp only
  split
  · rfl
  · rename_i op _
    cases op <;> first
      | exact rfl
      | exact item_key rfl (fun _ => rfl) (fun _ => rfl) (fun _ => rfl)
      | exact mark_key ..
      | exact alternative_key ..
      | exact until_key ..
      | exact possessive_key ..
      | exact attempt_key ..
      | (dsimp only; (repeat' split) <;> first | rfl | exact afterRun_key .. | exact attempt_key ..)
theorem step_key (m : M) : key m.step = key m := by
  unfold M.step; (repeat' split) <;> first | rfl | exact resume_key .. | exact exec_key ..

theorem step_lim (m : M) : m.step.lim = m.lim := congrArg (fun k => k.2.2.1) (step_key m)
theorem runFor_key : ∀ (n : Nat) (m : M), key (m.runFor n) = key m
  | 0, _ => rfl
  | n + 1, m => by
    unfold M.runFor
    split
    · rfl
    · rw [runFor_key n, step_key]
theorem runFor_done : ∀ (n : Nat) {m : M}, m.outcome.isSome = true → m.runFor n = m
  | 0, _, _ => rfl
  | n + 1, m, h => by unfold M.runFor; rw [if_pos h]
theorem runFor_add : ∀ (a b : Nat) (m : M), m.runFor (a + b) = (m.runFor a).runFor b
  | 0, b, m => by rw [Nat.zero_add]; rfl
  | a + 1, b, m => by
    rw [Nat.add_right_comm]
    show (if m.outcome.isSome then m else (m.step).runFor (a + b)) = (if m.outcome.isSome then m else (m.step).runFor a).runFor b
    split
    · rename_i h; rw [runFor_done b h]
    · exact runFor_add a b _
/-- a greedy run of single signs, told by a natural number of signs left -/
def rep1 (m : M) : M :=
  if m.lim - m.pos < m.word 2 then { m with seen := m.seen.add 24 }.say false else
  match run m.code m.text (m.pc + 4) (m.lim - m.pos) m.pos 0 ((m.seen.add 24).add (m.word 4)) with
  | .error why => { m with seen := m.seen.add 24 }.stick why
  | .ok (n, seen) => if n < m.word 2 then { m with seen := seen }.say false
    else ({ m with seen := seen, pos := m.pos + n } : M).afterRun .giveBack n (({ m with seen := seen, pos := m.pos + n } : M).keep m.inner.isSome)
def isRep (m : M) : Bool := m.outcome.isNone && m.answer.isNone && Nat.blt m.pc m.code.size && Nat.beq (m.word 0) 24 && Nat.beq (m.word 3) 4294967295 && Nat.ble m.pos m.lim
def step' (m : M) : M := match isRep m with | true => rep1 m | false => m.step
theorem step'_eq (m : M) (hl : m.lim ≤ 4294967295) : step' m = m.step := by
  unfold step'
  cases h : isRep m with
  | false => rfl
  | true =>
    show rep1 m = m.step
    unfold isRep at h
    simp only [Bool.and_eq_true, Option.isNone_iff_eq_none] at h
    obtain ⟨⟨⟨⟨⟨h1, h2⟩, h3⟩, h4⟩, h5⟩, h6⟩ := h
    have h3 : m.pc < m.code.size := Nat.le_of_ble_eq_true h3
    have h4 := Nat.eq_of_beq_eq_true h4
    have h5 := Nat.eq_of_beq_eq_true h5
    have h6 : m.pos ≤ m.lim := Nat.le_of_ble_eq_true h6
    have ho : ops[24]? = some Op.REPEAT_ONE := rfl
    unfold M.step
    simp only [h1, h2, Option.isSome_none, Bool.false_eq_true, if_false, if_pos h3]
    unfold M.exec
    simp only [h4, ho]
    have hw : ∀ k, ({ m with seen := m.seen.add 24 } : M).word k = m.word k := fun _ => rfl
    have hw2 : ∀ k (sn : PySem.Sre.Seen) (p : Nat), ({ m with seen := sn, pos := p } : M).word k = m.word k := fun _ _ _ => rfl
    have hroom : ((m.lim : Int) - (m.pos : Int)).toNat = m.lim - m.pos := by omega
    have hmin : min 4294967295 (m.lim - m.pos) = m.lim - m.pos := by omega
    simp only [hw, h5, hroom, Bool.false_eq_true, if_false, hmin]
    unfold rep1
    by_cases hc : m.lim - m.pos < m.word 2
    · have hc' : ((m.word 2 : Nat) : Int) > (m.lim : Int) - (m.pos : Int) := by omega
      rw [if_pos hc, if_pos hc']
    · have hc' : ¬ ((m.word 2 : Nat) : Int) > (m.lim : Int) - (m.pos : Int) := by omega
      rw [if_neg hc, if_neg hc']
      rfl
def runFor' : Nat → M → M
  | 0, m => m
  | n + 1, m => match m.outcome.isSome with | true => m | false => runFor' n (step' m)
theorem runFor'_eq : ∀ (n : Nat) (m : M), m.lim ≤ 4294967295 → runFor' n m = m.runFor n
  | 0, _, _ => rfl
  | n + 1, m, h => by
    unfold runFor' M.runFor
    cases m.outcome.isSome with
    | true => rfl
    | false =>
      simp only [Bool.false_eq_true, if_false]
      rw [step'_eq m h]
      exact runFor'_eq n _ (by rw [step_lim]; exact h)
example (tl : List Nat) (n : Nat) : fdOf (runFor' 20 (forSearch tokC ⟨97 :: 61 :: tl⟩ 1 0 (n + 2) false)) = some ⟨true, 0, 1, [some 0, some 1], 1, 1⟩ := by kernel_rfl!
example (tl : List Nat) (n : Nat) : fdOf (runFor' 32 (forSearch quoC ⟨61 :: 34 :: 92 :: 92 :: 44 :: 32 :: 97 :: 34 :: tl⟩ 1 0 (n + 8) false)) = some ⟨true, 0, 8, [some 2, some 7], 1, 1⟩ := by kernel_rfl!

/-- a try at place p has failed, nothing else is open -/
def failSt (m : M) : Option (Nat × Nat) := match m.answer, m.outcome, m.frames with
  | some false, none, [f] => match f.wait, f.kept.marks.size, m.weight with
    | .nextStart, 0, 1 => some (f.pc, f.pos)
    | _, _, _ => none
  | _, _, _ => none
theorem failSt_some {m : M} {pc p : Nat} (h : failSt m = some (pc, p)) : m.answer = some false ∧ m.outcome = none ∧ m.weight = 1 ∧ ∃ f : Sre.Frame, m.frames = [f] ∧ f.wait = .nextStart ∧ f.kept.marks.size = 0 ∧ f.pc = pc ∧ f.pos = p := by
  unfold failSt at h
  split at h
  · rename_i f h1 h2 h3
    split at h
    · rename_i g1 g2 g3
      simp only [Option.some.injEq, Prod.mk.injEq] at h
      exact ⟨h1, h2, g3, f, h3, g1, g2, h.1, h.2⟩
    · cases h
  · cases h
/-- a pattern that begins with ^ -/
def anch (c : Array Nat) (pc : Nat) : Bool := Nat.beq (c.getD pc 0) 6 && Nat.beq (c.getD (pc + 1) 0) 0 && !(Nat.beq (c.getD 2 0) 4) && Nat.blt pc c.size
theorem fail_last {m : M} {pc p : Nat} (h : failSt m = some (pc, p)) (hp : ¬ p < m.lastStart) : (m.runFor 2).outcome = some .failed := by
  obtain ⟨h1, h2, h3, f, h4, h5, h6, h7, h8⟩ := failSt_some h
  have e1 : m.step = ({ m with answer := none, frames := [], weight := m.weight - (1 + f.kept.marks.size), pc := f.pc, pos := f.pos, outermost := f.outermost } : M).say false := by
    unfold M.step
    simp only [h2, Option.isSome_none, Bool.false_eq_true, if_false, h1, h4]
    unfold M.resume
    simp only [h5, Bool.false_eq_true, if_false, h8, if_neg hp]
  show (if m.outcome.isSome then m else (m.step).runFor 1).outcome = _
  rw [h2, e1]
  simp only [Option.isSome_none, Bool.false_eq_true, if_false]
  unfold M.runFor
  simp only [M.say, h2, Option.isSome_none, Bool.false_eq_true, if_false]
  unfold M.runFor M.step
  simp only [h2, Option.isSome_none, Bool.false_eq_true, if_false]
theorem fail_next {m : M} {pc p : Nat} (h : failSt m = some (pc, p)) (ha : anch m.code pc = true) (hp : p < m.lastStart) : failSt (m.runFor 2) = some (pc, p + 1) := by
  obtain ⟨h1, h2, h3, f, h4, h5, h6, h7, h8⟩ := failSt_some h
  unfold anch at ha
  simp only [Bool.and_eq_true, Bool.not_eq_true'] at ha
  obtain ⟨⟨⟨a1, a2⟩, a3⟩, a4⟩ := ha
  have a1 := Nat.eq_of_beq_eq_true a1
  have a2 := Nat.eq_of_beq_eq_true a2
  have a3 : m.code.getD 2 0 ≠ 4 := fun q => by rw [q] at a3; cases a3
  have a4 : pc < m.code.size := Nat.le_of_ble_eq_true a4
  have e1 : m.step = ({ m with answer := none, frames := [{ wait := .nextStart, pc := pc, pos := p + 1, outermost := false }], weight := 1, pc := pc, pos := p + 1, handed := p + 1, start := p + 1, lastmark := -1, lastindex := -1, mustAdvance := false, outermost := false } : M) := by
    unfold M.step
    simp only [h2, Option.isSome_none, Bool.false_eq_true, if_false, h1, h4]
    unfold M.resume
    simp only [h5, Bool.false_eq_true, if_false, h8, if_pos hp]
    unfold M.attemptFrom M.hasFirstSet
    have : (m.code.getD 2 0 == 4) = false := by simpa using a3
    simp only [this, Bool.and_false, Bool.not_false, if_true]
    unfold M.attemptAt M.attempt
    simp only [h3, h6, h7]
    rfl
  show failSt (if m.outcome.isSome then m else (m.step).runFor 1) = _
  rw [h2, e1]
  simp only [Option.isSome_none, Bool.false_eq_true, if_false]
  unfold M.runFor
  simp only [h2, Option.isSome_none, Bool.false_eq_true, if_false]
  unfold M.runFor M.step
  simp only [h2, Option.isSome_none, Bool.false_eq_true, if_false, if_pos a4]
  unfold M.exec
  have ho : ops[6]? = some Op.AT := rfl
  simp only [M.word, Nat.add_zero, a1, a2, ho]
  unfold M.isAt
  have hz : (p + 1 == 0) = false := by simp
  simp only [hz, Bool.false_eq_true, if_false]
  unfold failSt M.say
  simp only [h2]
  rfl
theorem fail_run : ∀ (k : Nat) {m : M} {pc p : Nat}, failSt m = some (pc, p) → anch m.code pc = true → m.lastStart ≤ p + k → (m.runFor (2 * k + 2)).outcome = some .failed
  | 0, m, pc, p, h, _, hk => fail_last h (by omega)
  | k + 1, m, pc, p, h, ha, hk => by
    by_cases hp : p < m.lastStart
    · have h2 := fail_next h ha hp
      have kk := runFor_key 2 m
      have ec : (m.runFor 2).code = m.code := congrArg (fun x => x.1) kk
      have es : (m.runFor 2).lastStart = m.lastStart := congrArg (fun x => x.2.2.2) kk
      have := fail_run k h2 (by rw [ec]; exact ha) (by rw [es]; omega)
      rw [show 2 * (k + 1) + 2 = 2 + (2 * k + 2) by omega, runFor_add]
      exact this
    · have := fail_last h hp
      rw [show 2 * (k + 1) + 2 = 2 + (2 * k + 2) by omega, runFor_add, runFor_done _ (by rw [this]; rfl)]
      exact this
end Mine

-- part Rw
namespace Mine
open PySem PySem.Sre PySem.Spec PySem.Calls PyProof.Rows PySem.W PySem.Builtin.Re
set_option maxRecDepth 100000
set_option linter.unusedSimpArgs false
set_option Elab.async false

section
variable {M' : Model} {A : Around} {E : Value → Shared → Prop} {s : Shared}

theorem wp_reDrive {Q : M → Shared → Prop} : ∀ (j t : Nat) (m : M), j < t → (m.runFor (4 * j)).outcome.isSome = true → Q (m.runFor (4 * j)) s → wpAny M' A (reDrive t m) Q E s
  | _, 0, _, h, _, _ => absurd h (Nat.not_lt_zero _)
  | 0, t + 1, m, _, ho, hq => by
    have e : m.runFor reTurnSteps = m := runFor_done _ ho
    unfold reDrive
    simp only [e]
    rw [if_pos (show m.outcome.isSome = true from ho)]
    exact wpAny_pure hq
  | j + 1, t + 1, m, hj, ho, hq => by
    unfold reDrive
    dsimp only
    have e : m.runFor (4 * (j + 1)) = (m.runFor reTurnSteps).runFor (4 * j) := by
      rw [show 4 * (j + 1) = 4 + 4 * j by omega, runFor_add]; rfl
    rw [e] at ho hq
    split
    · rename_i h
      rw [runFor_done _ h] at hq
      exact wpAny_pure hq
    · exact wpAny_bind (wpAny_rule (wp_reDrive j t _ (by omega) ho hq))

theorem wp_rules {α : Type} {c : α → Bool} {f : α → String} {Q : PUnit → Shared → Prop} (h : Q ⟨⟩ s) : ∀ (l : List α), wpAny M' A (forIn l PUnit.unit (fun i r => do
    if c i = true then do rule (f i); pure (ForInStep.yield PUnit.unit) else pure (ForInStep.yield PUnit.unit))) Q E s := fun l => by
  refine wpAny_forIn_list _ (fun _ _ s' => s' = s) _ (fun x rest b s' e => ?_) (fun b s' e => ?_) l _ rfl
  · subst e
    split
    · exact wpAny_bind (wpAny_rule (wpAny_pure rfl))
    · exact wpAny_pure rfl
  · subst e; exact h

theorem fdOf_yes {m : M} {a b : Nat} {l : List (Option Nat)} {x y : Int} (h : fdOf m = some ⟨true, a, b, l, x, y⟩) : m.outcome = some .matched ∧ m.start = a ∧ m.handed = b ∧ m.marks = l.toArray ∧ m.lastmark = x ∧ m.lastindex = y := by
  unfold fdOf at h
  split at h
  · rename_i ho
    simp only [Option.some.injEq, Fd.mk.injEq, true_and] at h
    obtain ⟨h1, h2, h3, h4, h5⟩ := h
    exact ⟨ho, h1, h2, by rw [← h3], h4, h5⟩
  · simp at h
  · cases h

theorem wp_reRun {m : M} {k : Nat} {Q : Option M → Shared → Prop} (hk : k ≤ 2 ^ 62) (ho : (m.runFor k).outcome = some .matched ∧ Q (some (m.runFor k)) s ∨ (m.runFor k).outcome = some .failed ∧ Q none s) :
    wpAny M' A (reRunToEnd m) Q E s := by
  have hs : (m.runFor k).outcome.isSome = true := by rcases ho with ⟨e, _⟩ | ⟨e, _⟩ <;> rw [e] <;> rfl
  have e : m.runFor (4 * k) = m.runFor k := by
    rw [show 4 * k = k + 3 * k by omega, runFor_add, runFor_done _ hs]
  unfold reRunToEnd
  refine wpAny_bind (wp_reDrive k (2 ^ 64) m (by omega) (by rw [e]; exact hs) ?_)
  rw [e]
  refine wpAny_bind (wp_rules ?_ _)
  rcases ho with ⟨e, q⟩ | ⟨e, q⟩
  · rw [e]; exact wpAny_pure q
  · rw [e]; exact wpAny_pure q
end
end Mine

-- part Rw2
namespace Mine
open PySem PySem.Sre PySem.Spec PySem.Calls PyProof.Rows PySem.W PySem.Builtin.Re
set_option maxRecDepth 100000
set_option linter.unusedSimpArgs false
set_option Elab.async false

theorem reNamed_one (id f : String) (v : Value) : reNamed id f ["string", "pos", "endpos"] 1 [v] [] = pure [some v, none, none] := by rfl

/-- a compiled pattern with that code and so many groups -/
def PatAt (h : Heap) (p : Addr) (code : Array Nat) (g : Nat) : Prop :=
  ∃ o fs c oc its n tg tk, h.get? p = some o ∧ o.cls = .type "re.Pattern" ∧ o.dict = none ∧ o.data = .fields fs ∧ fs.getD 2 .none = .int g tg ∧ fs.getD 5 .none = .ref c ∧ fs.getD 6 .none = .int 0 tk ∧
    h.get? c = some oc ∧ oc.data = .seq its n ∧ (its.map reRawOf).map (·.toNat) = code
theorem PatAt.keeps {h h' : Heap} {p : Addr} {code : Array Nat} {g : Nat} (x : PatAt h p code g) (k : ∀ b o, h.get? b = some o → h'.get? b = some o) : PatAt h' p code g := by
  obtain ⟨o, fs, c, oc, its, n, tg, tk, h1, h2, h3, h4, h5, h6, h7, h8, h9⟩ := x
  exact ⟨o, fs, c, oc, its, n, tg, tk, k _ _ h1, h2, h3, h4, h5, h6, h7, k _ _ h8, h9⟩
theorem PatAt.typeIs {s : Shared} {p : Addr} {code : Array Nat} {g : Nat} (x : PatAt s.heap p code g) : s.TypeIs (.ref p) "re.Pattern" := by
  obtain ⟨o, fs, c, oc, its, n, tg, tk, h1, h2, h3, h4, h5, h6, h7, h8, h9⟩ := x
  exact ⟨o, h1, h2⟩

abbrev mtObj (str pat : Value) (lim : Nat) (li : Int) (tp : Addr) : Obj := { cls := .type "re.Match", data := .fields #[str, pat, rawInt (0 : Nat), rawInt lim, rawInt li, .ref tp] }
abbrev spObj (l : List Int) : Obj := { cls := .type "tuple", data := .seq (l.map rawInt).toArray }

section
variable {prog : Program} {w : World} {A : Around} {E : Value → Shared → Prop} {s : Shared} {p : Addr} {x : Str} {t : Tok} {code : Array Nat} {g : Nat}

theorem wp_reTarget {id f : String} {Q : ReTarget → Shared → Prop} (P : PatAt s.heap p code g) (h : Q ⟨.ref p, .str x t, code, x.cps, 0, g, 0, x.cps.size⟩ s) (hx : x.cps.size ≤ 2 ^ 62) :
    wpAny (model prog w) A (reTarget id f ⟨[.ref p, .str x t], []⟩) Q E s := by
  obtain ⟨o, fs, c, oc, its, n, tg, tk, h1, h2, h3, h4, h5, h6, h7, h8, h9, h10⟩ := P
  unfold reTarget
  dsimp only
  rw [reNamed_one]
  refine wpAny_bind (wpAny_pure ?_)
  dsimp only
  refine wpAny_bind (wpAny_pure ?_)
  refine wpAny_bind (wpAny_pure ?_)
  refine wpAny_bind (wpAny_fieldsOf h1 h4 ?_)
  refine wpAny_bind (m := reTextOf (.str x t)) (wpAny_pure ?_)
  dsimp only
  rw [h7]
  simp only [reRawNat]
  refine wpAny_bind (m := reNoCollectionInside (.str x t) 0) (wpAny_pure ?_)
  rw [h6, h5]
  unfold reRawItems
  refine wpAny_bind (wpAny_bind (wpAny_seqItems h8 h9 (wpAny_pure ?_)))
  simp only [Option.getD_some, h10]
  have e1 : min (0 : Int).toNat x.cps.size = 0 := by simp
  have e2 : min ((2 : Int) ^ 63 - 1).toNat x.cps.size = x.cps.size := by
    have : ((2 : Int) ^ 63 - 1).toNat = 9223372036854775807 := by decide
    rw [this]; omega
  rw [e1, e2]
  exact wpAny_pure h

theorem wp_newMatch1 {pat str : Value} {lim a b i j : Nat} {li : Int} {m : M} {Q : Value → Shared → Prop} (h1 : m.start = a) (h2 : m.handed = b) (h3 : m.marks = #[some i, some j]) (h4 : m.lastmark = 1) (h5 : m.lastindex = li) (hij : i ≤ j)
    (h : Q (.ref (s.heap.objs.size + 1)) { s with heap := (s.heap.push (spObj [(a : Int), b, i, j])).push (mtObj str pat lim li s.heap.objs.size) }) :
    wpAny (model prog w) A (reNewMatch pat str 1 0 lim m) Q E s := by
  unfold reNewMatch
  have hn : ¬ j < i := Nat.not_lt.mpr hij
  simp only [h1, h2, h3, h4, h5, List.range_succ, List.range_zero, List.nil_append, List.flatMap_cons, List.flatMap_nil, List.append_nil, List.any_cons, List.any_nil, Bool.or_false]
  simp only [show ((2 * 0 + 1 : Nat) : Int) ≤ 1 from by decide, if_true, show (#[some i, some j] : Array (Option Nat)).getD (2 * 0) none = some i from rfl, show (#[some i, some j] : Array (Option Nat)).getD (2 * 0 + 1) none = some j from rfl, hn, decide_true, Bool.true_and, decide_false, Bool.false_eq_true, if_false]
  refine wpAny_bind (wpAny_newTuple ?_)
  refine wpAny_newObj_type ?_ (by size_fits)
  rw [Heap.size_push]
  exact h
theorem wp_newMatch0 {pat str : Value} {lim a b : Nat} {li : Int} {m : M} {Q : Value → Shared → Prop} (h1 : m.start = a) (h2 : m.handed = b) (h5 : m.lastindex = li)
    (h : Q (.ref (s.heap.objs.size + 1)) { s with heap := (s.heap.push (spObj [(a : Int), b])).push (mtObj str pat lim li s.heap.objs.size) }) :
    wpAny (model prog w) A (reNewMatch pat str 0 0 lim m) Q E s := by
  unfold reNewMatch
  simp only [h1, h2, h5, List.range_zero, List.flatMap_nil, List.any_nil, Bool.false_eq_true, if_false]
  refine wpAny_bind (wpAny_newTuple ?_)
  refine wpAny_newObj_type ?_ (by size_fits)
  rw [Heap.size_push]
  exact h
end
end Mine

-- part Rf
namespace Mine
open PySem PySem.Sre PySem.Spec PySem.Calls PyProof.Rows PySem.W PySem.Builtin.Re
set_option maxRecDepth 100000
set_option linter.unusedSimpArgs false
set_option Elab.async false

theorem pa_Pattern : PlainAttrs "re.Pattern" :=
  ⟨⟨"object.__getattribute__", by rw [typeLookup_type, builtinLookup_eq_fast]; kernel_rfl, by decide +kernel⟩, by rw [typeLookup_type, builtinLookup_eq_fast]; kernel_rfl⟩
theorem pa_Match : PlainAttrs "re.Match" :=
  ⟨⟨"object.__getattribute__", by rw [typeLookup_type, builtinLookup_eq_fast]; kernel_rfl, by decide +kernel⟩, by rw [typeLookup_type, builtinLookup_eq_fast]; kernel_rfl⟩
theorem find_Pattern : Manifest.find? "re.Pattern" = some Manifest.ty_re_Pattern := by kernel_rfl
theorem find_Match : Manifest.find? "re.Match" = some Manifest.ty_re_Match := by kernel_rfl
theorem self_Pattern : isSubtype (.type "re.Pattern") (.type "re.Pattern") = pure true := by rw [isSubtype_type]; kernel_rfl
theorem self_Match : isSubtype (.type "re.Match") (.type "re.Match") = pure true := by rw [isSubtype_type]; kernel_rfl
theorem sl_search : Slot "re.Pattern" "search" "re.Pattern.search" :=
  .of (owner := "re.Pattern") (n := "search") (by rw [typeLookup_type, builtinLookup_eq_fast]; kernel_rfl) (by decide +kernel) (by decide +kernel) (by decide +kernel)
    (.inr (by rw [find_Pattern]; decide +kernel)) self_Pattern
theorem sl_fullmatch : Slot "re.Pattern" "fullmatch" "re.Pattern.fullmatch" :=
  .of (owner := "re.Pattern") (n := "fullmatch") (by rw [typeLookup_type, builtinLookup_eq_fast]; kernel_rfl) (by decide +kernel) (by decide +kernel) (by decide +kernel)
    (.inr (by rw [find_Pattern]; decide +kernel)) self_Pattern
theorem sl_sub : Slot "re.Pattern" "sub" "re.Pattern.sub" :=
  .of (owner := "re.Pattern") (n := "sub") (by rw [typeLookup_type, builtinLookup_eq_fast]; kernel_rfl) (by decide +kernel) (by decide +kernel) (by decide +kernel)
    (.inr (by rw [find_Pattern]; decide +kernel)) self_Pattern
theorem sl_subn : Slot "re.Pattern" "subn" "re.Pattern.subn" :=
  .of (owner := "re.Pattern") (n := "subn") (by rw [typeLookup_type, builtinLookup_eq_fast]; kernel_rfl) (by decide +kernel) (by decide +kernel) (by decide +kernel)
    (.inr (by rw [find_Pattern]; decide +kernel)) self_Pattern
theorem sl_span : Slot "re.Match" "span" "re.Match.span" :=
  .of (owner := "re.Match") (n := "span") (by rw [typeLookup_type, builtinLookup_eq_fast]; kernel_rfl) (by decide +kernel) (by decide +kernel) (by decide +kernel)
    (.inr (by rw [find_Match]; decide +kernel)) self_Match
theorem sl_group : Slot "re.Match" "group" "re.Match.group" :=
  .of (owner := "re.Match") (n := "group") (by rw [typeLookup_type, builtinLookup_eq_fast]; kernel_rfl) (by decide +kernel) (by decide +kernel) (by decide +kernel)
    (.inr (by rw [find_Match]; decide +kernel)) self_Match
theorem en_search : entryFor table "re.Pattern.search" = some Builtin.«re.Pattern.search» := entryFor_of_tree (by kernel_rfl)
theorem en_fullmatch : entryFor table "re.Pattern.fullmatch" = some Builtin.«re.Pattern.fullmatch» := entryFor_of_tree (by kernel_rfl)
theorem en_sub : entryFor table "re.Pattern.sub" = some Builtin.«re.Pattern.sub» := entryFor_of_tree (by kernel_rfl)
theorem en_subn : entryFor table "re.Pattern.subn" = some Builtin.«re.Pattern.subn» := entryFor_of_tree (by kernel_rfl)
theorem en_loop : entryFor table "re.Pattern.sub.loop" = some Builtin.«re.Pattern.sub.loop» := entryFor_of_tree (by kernel_rfl)
theorem en_span : entryFor table "re.Match.span" = some Builtin.«re.Match.span» := entryFor_of_tree (by kernel_rfl)
theorem en_group : entryFor table "re.Match.group" = some Builtin.«re.Match.group» := entryFor_of_tree (by kernel_rfl)
theorem en_string : entryFor table "re.Match.string" = some Builtin.«re.Match.string» := entryFor_of_tree (by kernel_rfl)
theorem ty_search : typeOf (.builtin "re.Pattern.search") = pure (.type "method_descriptor") := by show builtinType _ = _; rw [builtinType_eq_fast]; kernel_rfl
theorem ty_fullmatch : typeOf (.builtin "re.Pattern.fullmatch") = pure (.type "method_descriptor") := by show builtinType _ = _; rw [builtinType_eq_fast]; kernel_rfl
theorem ty_sub : typeOf (.builtin "re.Pattern.sub") = pure (.type "method_descriptor") := by show builtinType _ = _; rw [builtinType_eq_fast]; kernel_rfl
theorem ty_subn : typeOf (.builtin "re.Pattern.subn") = pure (.type "method_descriptor") := by show builtinType _ = _; rw [builtinType_eq_fast]; kernel_rfl
theorem ty_span : typeOf (.builtin "re.Match.span") = pure (.type "method_descriptor") := by show builtinType _ = _; rw [builtinType_eq_fast]; kernel_rfl
theorem ty_group : typeOf (.builtin "re.Match.group") = pure (.type "method_descriptor") := by show builtinType _ = _; rw [builtinType_eq_fast]; kernel_rfl
theorem ow_Pattern : Manifest.owners.lookup "re.Pattern" = some Manifest.sig_re_Pattern := by kernel_rfl
theorem ow_Match : Manifest.owners.lookup "re.Match" = some Manifest.sig_re_Match := by kernel_rfl
theorem ar_search (a b : Value) : argsOk "re.Pattern.search" ⟨[a, b], []⟩ := by
  unfold argsOk; rw [signature?_of (id := "re.Pattern.search") (n := ['h', 'c', 'r', 'a', 'e', 's']) (o := ['n', 'r', 'e', 't', 't', 'a', 'P', '.', 'e', 'r']) (by kernel_rfl) ow_Pattern]; kernel_rfl
theorem ar_fullmatch (a b : Value) : argsOk "re.Pattern.fullmatch" ⟨[a, b], []⟩ := by
  unfold argsOk; rw [signature?_of (id := "re.Pattern.fullmatch") (n := ['h', 'c', 't', 'a', 'm', 'l', 'l', 'u', 'f']) (o := ['n', 'r', 'e', 't', 't', 'a', 'P', '.', 'e', 'r']) (by kernel_rfl) ow_Pattern]; kernel_rfl
theorem ar_sub (a b c : Value) : argsOk "re.Pattern.sub" ⟨[a, b, c], []⟩ := by
  unfold argsOk; rw [signature?_of (id := "re.Pattern.sub") (n := ['b', 'u', 's']) (o := ['n', 'r', 'e', 't', 't', 'a', 'P', '.', 'e', 'r']) (by kernel_rfl) ow_Pattern]; kernel_rfl
theorem ar_subn (a b c : Value) : argsOk "re.Pattern.subn" ⟨[a, b, c], []⟩ := by
  unfold argsOk; rw [signature?_of (id := "re.Pattern.subn") (n := ['n', 'b', 'u', 's']) (o := ['n', 'r', 'e', 't', 't', 'a', 'P', '.', 'e', 'r']) (by kernel_rfl) ow_Pattern]; kernel_rfl
theorem ar_span (a b : Value) : argsOk "re.Match.span" ⟨[a, b], []⟩ := by
  unfold argsOk; rw [signature?_of (id := "re.Match.span") (n := ['n', 'a', 'p', 's']) (o := ['h', 'c', 't', 'a', 'M', '.', 'e', 'r']) (by kernel_rfl) ow_Match]; kernel_rfl
theorem ar_group (a b : Value) : argsOk "re.Match.group" ⟨[a, b], []⟩ := by
  unfold argsOk; rw [signature?_of (id := "re.Match.group") (n := ['p', 'u', 'o', 'r', 'g']) (o := ['h', 'c', 't', 'a', 'M', '.', 'e', 'r']) (by kernel_rfl) ow_Match]; kernel_rfl

section
variable {prog : Program} {w : World} {A : Around} {E : Value → Shared → Prop} {s : Shared} {p : Addr} {x : Str} {t : Tok} {code : Array Nat} {g : Nat}
theorem search_no {k : Nat} {Q : Value → Shared → Prop} (P : PatAt s.heap p code g) (hx : x.cps.size ≤ 2 ^ 60) (hk : k ≤ 2 ^ 62) (ho : ((forSearch code x.cps g 0 x.cps.size false).runFor k).outcome = some .failed) (h : Q .none s) :
    wpAny (model prog w) A (call (.builtin "re.Pattern.search") [.ref p, .str x t]) Q E s := by
  refine wpAny_call_entry sl_search P.typeIs en_search ?_ (ar_search _ _)
  refine wpAny_bind (wp_reTarget P ?_ (by omega))
  unfold reAnswer
  refine wpAny_bind (wp_reRun hk (.inr ⟨ho, ?_⟩))
  exact wpAny_pure ⟨_, rfl, h⟩
theorem search_yes1 {k a b i j : Nat} {li : Int} {Q : Value → Shared → Prop} (P : PatAt s.heap p code 1) (hx : x.cps.size ≤ 2 ^ 60) (hk : k ≤ 2 ^ 62) (ho : fdOf ((forSearch code x.cps 1 0 x.cps.size false).runFor k) = some ⟨true, a, b, [some i, some j], 1, li⟩) (hij : i ≤ j)
    (h : Q (.ref (s.heap.objs.size + 1)) { s with heap := (s.heap.push (spObj [(a : Int), b, i, j])).push (mtObj (.str x t) (.ref p) x.cps.size li s.heap.objs.size) }) :
    wpAny (model prog w) A (call (.builtin "re.Pattern.search") [.ref p, .str x t]) Q E s := by
  refine wpAny_call_entry sl_search P.typeIs en_search ?_ (ar_search _ _)
  refine wpAny_bind (wp_reTarget P ?_ (by omega))
  unfold reAnswer
  obtain ⟨o1, o2, o3, o4, o5, o6⟩ := fdOf_yes ho
  refine wpAny_bind (wp_reRun hk (.inl ⟨o1, ?_⟩))
  refine wpAny_bind (wp_newMatch1 o2 o3 o4 o5 o6 hij ?_)
  exact wpAny_pure ⟨_, rfl, h⟩
theorem fullmatch_no {k : Nat} {Q : Value → Shared → Prop} (P : PatAt s.heap p code g) (hx : x.cps.size ≤ 2 ^ 60) (hk : k ≤ 2 ^ 62) (ho : ((forMatch code x.cps g 0 x.cps.size true false).runFor k).outcome = some .failed) (h : Q .none s) :
    wpAny (model prog w) A (call (.builtin "re.Pattern.fullmatch") [.ref p, .str x t]) Q E s := by
  refine wpAny_call_entry sl_fullmatch P.typeIs en_fullmatch ?_ (ar_fullmatch _ _)
  refine wpAny_bind (wp_reTarget P ?_ (by omega))
  unfold reAnswer
  refine wpAny_bind (wp_reRun hk (.inr ⟨ho, ?_⟩))
  exact wpAny_pure ⟨_, rfl, h⟩
theorem fullmatch_yes0 {k a b : Nat} {l : List (Option Nat)} {lm li : Int} {Q : Value → Shared → Prop} (P : PatAt s.heap p code 0) (hx : x.cps.size ≤ 2 ^ 60) (hk : k ≤ 2 ^ 62) (ho : fdOf ((forMatch code x.cps 0 0 x.cps.size true false).runFor k) = some ⟨true, a, b, l, lm, li⟩)
    (h : Q (.ref (s.heap.objs.size + 1)) { s with heap := (s.heap.push (spObj [(a : Int), b])).push (mtObj (.str x t) (.ref p) x.cps.size li s.heap.objs.size) }) :
    wpAny (model prog w) A (call (.builtin "re.Pattern.fullmatch") [.ref p, .str x t]) Q E s := by
  refine wpAny_call_entry sl_fullmatch P.typeIs en_fullmatch ?_ (ar_fullmatch _ _)
  refine wpAny_bind (wp_reTarget P ?_ (by omega))
  unfold reAnswer
  obtain ⟨o1, o2, o3, o4, o5, o6⟩ := fdOf_yes ho
  refine wpAny_bind (wp_reRun hk (.inl ⟨o1, ?_⟩))
  refine wpAny_bind (wp_newMatch0 o2 o3 o6 ?_)
  exact wpAny_pure ⟨_, rfl, h⟩
end
end Mine

-- part Rm
namespace Mine
open PySem PySem.Sre PySem.Spec PySem.Calls PyProof.Rows PySem.W PySem.Builtin.Re
set_option maxRecDepth 100000
set_option linter.unusedSimpArgs false
set_option Elab.async false

/-- a match of text x with those spans -/
def MtAt (h : Heap) (mt : Addr) (x : Str) (t : Tok) (l : List Int) : Prop :=
  ∃ o fs tp ot n, h.get? mt = some o ∧ o.cls = .type "re.Match" ∧ o.dict = none ∧ o.data = .fields fs ∧ fs[0]? = some (.str x t) ∧ fs.getD 0 .none = .str x t ∧ fs.getD 5 .none = .ref tp ∧ h.get? tp = some ot ∧ ot.data = .seq (l.map rawInt).toArray n
theorem MtAt.keeps {h h' : Heap} {p : Addr} {x : Str} {t : Tok} {l : List Int} (q : MtAt h p x t l) (k : ∀ b o, h.get? b = some o → h'.get? b = some o) : MtAt h' p x t l := by
  obtain ⟨o, fs, tp, ot, n, h1, h2, h3, h4, h5, h6, h7, h8, h9⟩ := q
  exact ⟨o, fs, tp, ot, n, k _ _ h1, h2, h3, h4, h5, h6, h7, k _ _ h8, h9⟩
theorem MtAt.typeIs {s : Shared} {p : Addr} {x : Str} {t : Tok} {l : List Int} (q : MtAt s.heap p x t l) : s.TypeIs (.ref p) "re.Match" := by
  obtain ⟨o, fs, tp, ot, n, h1, h2, _⟩ := q
  exact ⟨o, h1, h2⟩
theorem rawOf_map (l : List Int) : ((l.map rawInt).toArray).map reRawOf = l.toArray := by
  rw [List.map_toArray, List.map_map]
  congr 1
  exact List.map_id'' (fun _ => rfl) l

section
variable {prog : Program} {w : World} {A : Around} {E : Value → Shared → Prop} {s : Shared} {mt : Addr} {x : Str} {t tk : Tok} {l : List Int}
theorem wp_found {Q : ReFound → Shared → Prop} (P : MtAt s.heap mt x t l) (h : ∀ fs, fs.getD 0 .none = .str x t → Q ⟨fs, l.toArray⟩ s) : wpAny (model prog w) A (reFound (.ref mt)) Q E s := by
  obtain ⟨o, fs, tp, ot, n, h1, h2, h3, h4, h5, h6, h7, h8, h9⟩ := P
  unfold reFound
  refine wpAny_bind (wpAny_fieldsOf h1 h4 ?_)
  rw [h7]
  unfold reRawItems
  refine wpAny_bind (wpAny_bind (wpAny_seqItems h8 h9 (wpAny_pure ?_)))
  simp only [Option.getD_some, rawOf_map]
  exact wpAny_pure (h fs h6)
theorem wp_groupNo {fs : Array Value} {k : Nat} {Q : Nat → Shared → Prop} (hk : 2 * (k : Int) < l.length) (h : Q k s) : wpAny (model prog w) A (reGroupNumber ⟨fs, l.toArray⟩ (.int k tk)) Q E s := by
  unfold reGroupNumber
  refine wpAny_bind (m := asInt? (.int k tk)) (wpAny_pure ?_)
  simp only [Option.isSome_some, if_true]
  refine wpAny_bind (m := asIndex (.int k tk)) (wpAny_pure ?_)
  have hn : ¬ (((k : Int) < 0 || 2 * (k : Int) ≥ ((l.toArray.size : Nat) : Int)) = true) := by
    simp only [List.size_toArray, Bool.or_eq_true, decide_eq_true_eq]; omega
  rw [if_neg hn]
  exact wpAny_pure h
theorem span_rule {a b : Int} {r : List Int} {Q : Value → Shared → Prop} (P : MtAt s.heap mt x t (a :: b :: r))
    (h : Q (.ref s.heap.objs.size) { s with heap := s.heap.push { cls := .type "tuple", data := .seq #[.int a s.toks, .int b (s.toks + 1)] }, toks := s.toks + 1 + 1 }) :
    wpAny (model prog w) A (call (.builtin "re.Match.span") [.ref mt, .int 0 tk]) Q E s := by
  refine wpAny_call_entry sl_span P.typeIs en_span ?_ (ar_span _ _)
  refine wpAny_bind (m := reOneGroup "Match.span" "span" ⟨[.ref mt, .int 0 tk], []⟩) ?_
  unfold reOneGroup
  refine wpAny_bind (m := selfAndSome "Match.span" "span" 0 1 ⟨[.ref mt, .int 0 tk], []⟩) (wpAny_pure ?_)
  dsimp only
  refine wpAny_bind (wp_found P fun fs _ => ?_)
  refine wpAny_bind (wp_groupNo (k := 0) (by simp; omega) (wpAny_pure ?_))
  dsimp only
  have e0 : ((a :: b :: r).toArray).getD (2 * 0) (-1) = a := rfl
  have e1 : ((a :: b :: r).toArray).getD (2 * 0 + 1) (-1) = b := rfl
  rw [e0, e1]
  refine wpAny_bind (wpAny_mkInt (wpAny_bind (wpAny_mkInt (wpAny_bind (wpAny_newTuple ?_)))))
  exact wpAny_pure ⟨_, rfl, h⟩
theorem group1_rule {a b : Int} {i j : Nat} {Q : Value → Shared → Prop} (P : MtAt s.heap mt x t [a, b, (i : Int), (j : Int)]) (hx : x.cps.size ≤ 2 ^ 20)
    (h : Q (.str ⟨x.cps.extract i j⟩ s.toks) { s with toks := s.toks + 1 }) :
    wpAny (model prog w) A (call (.builtin "re.Match.group") [.ref mt, .int 1 tk]) Q E s := by
  refine wpAny_call_entry sl_group P.typeIs en_group ?_ (ar_group _ _)
  refine wpAny_bind (m := noKeywords "Match.group" ⟨[.ref mt, .int 1 tk], []⟩) (wpAny_pure ?_)
  dsimp only
  refine wpAny_bind (wp_found P fun fs hf => ?_)
  refine wpAny_bind (wp_groupNo (k := 1) (by simp) ?_)
  unfold reGroupText
  have e0 : ([a, b, (i : Int), (j : Int)].toArray).getD (2 * 1) (-1) = i := rfl
  have e1 : ([a, b, (i : Int), (j : Int)].toArray).getD (2 * 1 + 1) (-1) = j := rfl
  simp only [e0, e1, hf]
  have hn : ¬ (((i : Int) < 0 || (j : Int) < 0) = true) := by simp only [Bool.or_eq_true, decide_eq_true_eq]; omega
  rw [if_neg hn]
  refine wpAny_bind (wpAny_bind (m := reTextOf (.str x t)) (wpAny_pure ?_))
  dsimp only
  unfold reSlice
  simp only [beq_self_eq_true, if_true, Int.toNat_natCast]
  refine wpAny_mkStr (wpAny_pure ⟨_, rfl, h⟩) ?_
  show (x.cps.extract i j).size ≤ sizeLine
  rw [Array.size_extract, sizeLine_eq]; omega
end
end Mine

-- part Rs
namespace Mine
open PySem PySem.Sre PySem.Spec PySem.Calls PyProof.Rows PySem.W PySem.Builtin.Re
set_option maxRecDepth 100000
set_option linter.unusedSimpArgs false
set_option Elab.async false

theorem sl_ga : Slot "re.Match" "__getattribute__" "object.__getattribute__" :=
  .of (owner := "object") (n := "__getattribute__") (by rw [typeLookup_type, builtinLookup_eq_fast]; kernel_rfl) (by decide +kernel) (by decide +kernel) (by decide +kernel)
    (.inl (by decide +kernel)) (by rw [isSubtype_type]; kernel_rfl)
theorem lk_string : typeLookup (.type "re.Match") "string" = pure (some (.builtin "re.Match.string")) := by rw [typeLookup_type, builtinLookup_eq_fast]; kernel_rfl
theorem ty_string : typeOf (.builtin "re.Match.string") = pure (.type "member_descriptor") := by show builtinType _ = _; rw [builtinType_eq_fast]; kernel_rfl
theorem ow_string : (".".intercalate ("re.Match.string".cutAt '.').dropLast) = "re.Match" := by
  have e0 : "re.Match.string".cutAt '.' = ["re", "Match", "string"] := by first | rfl | decide +kernel
  rw [e0]; decide +kernel
theorem sub_Match : isSubtype (.type "re.Match") (.type "re.Match") = pure true := self_Match

section
variable {prog : Program} {w : World} {A : Around} {E : Value → Shared → Prop} {h : Heap} {g : Array GenState} {d : Drawn} {t : Nat} {os : OsState} {a : Addr} {o : Obj} {vs : Array Value} {a0 : Value}
theorem string_get {R : Result → Shared → Prop} (hx : h.get? a = some o) (hc : o.cls = .type "re.Match") (hd : o.data = .fields vs) (h0 : vs[0]? = some a0) (hq : R (.ok (.ret a0)) ⟨h, g, d, t, os⟩) :
    codeAny (model prog w) A (.call (.builtin "member_descriptor.__get__") ⟨[.builtin "re.Match.string", .ref a, .type "re.Match"], []⟩) R ⟨h, g, d, t, os⟩ := by
  have hT : (⟨h, g, d, t, os⟩ : Shared).TypeIs (.ref a) "re.Match" := ⟨_, hx, hc⟩
  have hT5 : (⟨h, g, d, t, os⟩ : Shared).TypeIs (.builtin "re.Match.string") "member_descriptor" := ty_string
  have f8 : isSubtype (.type "re.Match") (.type (".".intercalate ("re.Match.string".cutAt '.').dropLast)) = pure true := by rw [ow_string]; exact sub_Match
  refine codeAny_call_builtin KF.slot_mem.plain KF.entry_mem (KF.slot_mem.check _ _ _ _ _ _ _ _ hT5 (KF.args_mem _ _ _) ?_)
  repeat (any_goals (first | with_reducible assumption | (first | with_reducible (first | refine wpAny_pure ?_ | refine wpAny_bind ?_ | refine wpAny_holding ?_ | refine wpAny_rule ?_ | refine wpAny_alloc' ?_ | refine wpAny_attempt ?_ | refine wpAny_of_eq (by assumption) ?_ | refine wpAny_typeOf (by assumption) ?_ | refine wpAny_specialOf_val (by assumption) (by assumption) ?_ | refine wpAny_specialOf (by assumption) (by assumption) ?_ | refine wpAny_call ?_ | refine wpAny_loadPart' (by assumption) ?_) | ((with_reducible refine wpAny_ite_false ?_ ?_); focus (rfl; done)) | ((with_reducible refine wpAny_ite_true ?_ ?_); focus (rfl; done)) | ((with_reducible refine wpAny_ite_false ?_ ?_); focus (simp [*]; done)) | ((with_reducible refine wpAny_ite_true ?_ ?_); focus (simp [*]; done)) | wp_delta | with_reducible_and_instances refine wpAny_pure ?_ | with_reducible_and_instances refine wpAny_bind ?_)))
  refine ⟨Code.quiet_builtin _ (by decide +kernel), codeAny_builtin en_string ?_⟩
  exact wpAny_bind (m := field (.ref a) 0) (wpAny_field hx hd h0 (wpAny_pure hq))
theorem string_entry {tk : Tok} {Q : Fin → Shared → Prop} (hx : h.get? a = some o) (hc : o.cls = .type "re.Match") (hd : o.data = .fields vs) (h0 : vs[0]? = some a0) (hq : Q (.done (.ret a0)) ⟨h, g, d, t, os⟩) :
    wpAny (model prog w) A (Builtin.«object.__getattribute__» ⟨[.ref a, .str "string" tk], []⟩) Q E ⟨h, g, d, t, os⟩ := by
  have hT : (⟨h, g, d, t, os⟩ : Shared).TypeIs (.ref a) "re.Match" := ⟨_, hx, hc⟩
  have hT5 : (⟨h, g, d, t, os⟩ : Shared).TypeIs (.builtin "re.Match.string") "member_descriptor" := ty_string
  have f4 := lk_string
  have f5 := ty_string
  have f6 := KF.slot_mem.lookup
  have f7 := KF.slot_mset.lookup
  repeat (any_goals (first | with_reducible assumption | (first | with_reducible (first | refine wpAny_pure ?_ | refine wpAny_bind ?_ | refine wpAny_holding ?_ | refine wpAny_rule ?_ | refine wpAny_alloc' ?_ | refine wpAny_attempt ?_ | refine wpAny_of_eq (by assumption) ?_ | refine wpAny_typeOf (by assumption) ?_ | refine wpAny_specialOf_val (by assumption) (by assumption) ?_ | refine wpAny_specialOf (by assumption) (by assumption) ?_ | refine wpAny_call ?_ | refine wpAny_loadPart' (by assumption) ?_) | ((with_reducible refine wpAny_ite_false ?_ ?_); focus (rfl; done)) | ((with_reducible refine wpAny_ite_true ?_ ?_); focus (rfl; done)) | ((with_reducible refine wpAny_ite_false ?_ ?_); focus (simp [*]; done)) | ((with_reducible refine wpAny_ite_true ?_ ?_); focus (simp [*]; done)) | wp_delta | with_reducible_and_instances refine wpAny_pure ?_ | with_reducible_and_instances refine wpAny_bind ?_)))
  refine string_get hx hc hd h0 ?_
  repeat (any_goals (first | with_reducible assumption | (first | with_reducible (first | refine wpAny_pure ?_ | refine wpAny_bind ?_ | refine wpAny_holding ?_ | refine wpAny_rule ?_ | refine wpAny_alloc' ?_ | refine wpAny_attempt ?_ | refine wpAny_of_eq (by assumption) ?_ | refine wpAny_typeOf (by assumption) ?_ | refine wpAny_specialOf_val (by assumption) (by assumption) ?_ | refine wpAny_specialOf (by assumption) (by assumption) ?_ | refine wpAny_call ?_ | refine wpAny_loadPart' (by assumption) ?_) | ((with_reducible refine wpAny_ite_false ?_ ?_); focus (rfl; done)) | ((with_reducible refine wpAny_ite_true ?_ ?_); focus (rfl; done)) | ((with_reducible refine wpAny_ite_false ?_ ?_); focus (simp [*]; done)) | ((with_reducible refine wpAny_ite_true ?_ ?_); focus (simp [*]; done)) | wp_delta | with_reducible_and_instances refine wpAny_pure ?_ | with_reducible_and_instances refine wpAny_bind ?_)))
theorem string_by {tk : Tok} {fill expr : Bool} {x : Str} {tx : Tok} {Q : Value → Shared → Prop} (hx : h.get? a = some o) (hc : o.cls = .type "re.Match") (hd : o.data = .fields vs) (h0 : vs[0]? = some (.str x tx))
    (hq : Q (.str x tx) ⟨h, g, d, t, os⟩) : wpAny (model prog w) A (getAttrBy (.ref a) (.str "string" tk) fill expr) Q E ⟨h, g, d, t, os⟩ := by
  have hT : (⟨h, g, d, t, os⟩ : Shared).TypeIs (.ref a) "re.Match" := ⟨_, hx, hc⟩
  have f2 := sl_ga.lookup
  have f3 := sl_ga.bind (.ref a)
  have hx0 : (expr && onTheHeap (Value.builtin "object.__getattribute__")) = false := by cases expr <;> rfl
  repeat (any_goals (first | with_reducible assumption | (first | with_reducible (first | refine wpAny_pure ?_ | refine wpAny_bind ?_ | refine wpAny_holding ?_ | refine wpAny_rule ?_ | refine wpAny_alloc' ?_ | refine wpAny_attempt ?_ | refine wpAny_of_eq (by assumption) ?_ | refine wpAny_typeOf (by assumption) ?_ | refine wpAny_specialOf_val (by assumption) (by assumption) ?_ | refine wpAny_specialOf (by assumption) (by assumption) ?_ | refine wpAny_call ?_ | refine wpAny_loadPart' (by assumption) ?_) | ((with_reducible refine wpAny_ite_false ?_ ?_); focus (rfl; done)) | ((with_reducible refine wpAny_ite_true ?_ ?_); focus (rfl; done)) | ((with_reducible refine wpAny_ite_false ?_ ?_); focus (simp [*]; done)) | ((with_reducible refine wpAny_ite_true ?_ ?_); focus (simp [*]; done)) | wp_delta | with_reducible_and_instances refine wpAny_pure ?_ | with_reducible_and_instances refine wpAny_bind ?_)))
  refine codeAny_call_builtin sl_ga.plain F.entry_object_getattribute (sl_ga.check _ _ _ _ _ _ _ _ hT (F.args_object_getattribute_2 _ _) (string_entry hx hc hd h0 ?_))
  repeat (any_goals (first | with_reducible assumption | (first | with_reducible (first | refine wpAny_pure ?_ | refine wpAny_bind ?_ | refine wpAny_holding ?_ | refine wpAny_rule ?_ | refine wpAny_alloc' ?_ | refine wpAny_attempt ?_ | refine wpAny_of_eq (by assumption) ?_ | refine wpAny_typeOf (by assumption) ?_ | refine wpAny_specialOf_val (by assumption) (by assumption) ?_ | refine wpAny_specialOf (by assumption) (by assumption) ?_ | refine wpAny_call ?_ | refine wpAny_loadPart' (by assumption) ?_) | ((with_reducible refine wpAny_ite_false ?_ ?_); focus (rfl; done)) | ((with_reducible refine wpAny_ite_true ?_ ?_); focus (rfl; done)) | ((with_reducible refine wpAny_ite_false ?_ ?_); focus (simp [*]; done)) | ((with_reducible refine wpAny_ite_true ?_ ?_); focus (simp [*]; done)) | wp_delta | with_reducible_and_instances refine wpAny_pure ?_ | with_reducible_and_instances refine wpAny_bind ?_)))
end
section
variable {prog : Program} {w : World} {A : Around} {E : Value → Shared → Prop} {s : Shared} {mt : Addr} {x : Str} {t : Tok} {l : List Int}
theorem string_rule {expr : Bool} {Q : Value → Shared → Prop} (P : MtAt s.heap mt x t l) (h : Q (.str x t) { s with toks := s.toks + 1 }) : wpAny (model prog w) A (getAttr (.ref mt) "string" expr) Q E s := by
  obtain ⟨o, fs, tp, ot, n, h1, h2, h3, h4, h5, h6, h7, h8, h9⟩ := P
  unfold getAttr
  exact wpAny_bind (wpAny_mkText (string_by h1 h2 h4 h5 h))
end
end Mine

-- part Rj
namespace Mine
open PySem PySem.Sre PySem.Spec PySem.Calls PyProof.Rows PySem.W PySem.Builtin.Re PySem.Builtin PySem.Builtin.Str
set_option maxRecDepth 100000
set_option linter.unusedSimpArgs false
set_option Elab.async false

section
variable {prog : Program} {w : World} {A : Around} {E : Value → Shared → Prop} {s : Shared}
theorem glued_one (sep x : Str) : glued sep [x] = x := rfl
theorem join_rule {sep : Str} {t : Tok} {a : Addr} {l : List (Str × Tok)} {Q : Value → Shared → Prop} (hl : s.heap.IsList a (strValues l).toArray) (hsz : (l.map (·.1)).toArray.foldl (· + ·.length + sep.length) 0 ≤ 2 ^ 20) (hg : (glued sep (l.map (·.1))).length ≤ 2 ^ 20)
    (h : ∀ tk n, Q (.str (glued sep (l.map (·.1))) tk) { s with toks := n }) : wpAny (model prog w) A (call (.builtin "str.join") [.str sep t, .ref a]) Q E s := by
  obtain ⟨o, ho, hc, n, hd⟩ := id hl
  refine wpAny_call (codeAny_call_builtin F.slot_str_join.plain F.entry_str_join (F.slot_str_join.check _ _ _ _ _ _ _ _ (show s.TypeIs (.str sep t) "str" from rfl) (F.args_str_join_2 _ _) ?_))
  obtain ⟨other, e⟩ := join_tree sep t a
  rw [e]
  refine wpAny_bind (wpAny_typeOf hl.typeIs ?_)
  rw [if_pos (by decide)]
  refine wpAny_bind (wpAny_seqItems ho hd ?_)
  have hok : tooLong ((l.map (·.1)).toArray.foldl (· + ·.length + sep.length) 0) = false := by
    unfold tooLong; exact decide_eq_false (by rw [sizeLine_eq]; omega)
  have g := gives_joinTail sep l hok prog w A (fun r s' => match r with | .ok (.ret v) => Q v s' | .ok _ => False | .error e => E e s') s
  cases l with
  | nil => exact g ⟨by rw [sizeLine_eq]; omega, h _ _⟩
  | cons p r => cases r with
    | nil => exact g (h p.2 s.toks)
    | cons q r' => exact g ⟨by rw [sizeLine_eq]; omega, h _ _⟩
end
end Mine

-- part Rl
namespace Mine
open PySem PySem.Sre PySem.Spec PySem.Calls PyProof.Rows PySem.W PySem.Builtin.Re PySem.Builtin PySem.Builtin.Str
set_option maxRecDepth 100000
set_option linter.unusedSimpArgs false
set_option Elab.async false

abbrev lstO (ys : List Value) (e : Nat) : Obj := { cls := .type "list", data := .seq ys.toArray e }
theorem plain_loop : plainId "re.Pattern.sub.loop" = true := by decide +kernel

section
variable {prog : Program} {w : World} {A : Around} {E : Value → Shared → Prop} {s : Shared} {h₀ : Heap} {L : Addr} {m : Str → Option Value} {news : List (Addr × Obj)}

theorem seqPush_K {pl : Addr} {ys : List Value} {v : Value} {e : Nat} {Q : Unit → Shared → Prop} (F : Fr h₀ L s.heap m) (N : News h₀ L s.heap ((pl, lstO ys e) :: news)) (hne : ∀ q ∈ news, q.1 ≠ pl) (hsz : ys.length ≤ 2 ^ 20)
    (h : ∀ h', Fr h₀ L h' m → News h₀ L h' ((pl, lstO (ys ++ [v]) (e + 1)) :: news) → Q () { s with heap := h' }) : wpAny (model prog w) A (updateSeq pl (·.push v)) Q E s := by
  have ho := (N _ (.head _)).1
  refine wpAny_updateSeq ho rfl ?_ (by show ys.toArray.size ≤ sizeLine; rw [List.size_toArray, sizeLine_eq]; omega)
  have u := news_upd (pre := []) (f := Obj.mapSeq (·.push v)) (o' := lstO (ys ++ [v]) (e + 1)) F N (fun _ h => nomatch h) hne (by
    show (⟨_, _, .seq (ys.toArray.push v) (if (ys.toArray.push v).size == ys.toArray.size then e else e + 1), _⟩ : Obj) = _
    have : ((ys.toArray.push v).size == ys.toArray.size) = false := by simp
    rw [this, List.push_toArray]; rfl) rfl
  exact h _ u.1 u.2

theorem wp_reWhole {p : Addr} {x : Str} {t : Tok} {code : Array Nat} {g : Nat} {Q : ReTarget → Shared → Prop} (P : PatAt s.heap p code g) (h : Q ⟨.ref p, .str x t, code, x.cps, 0, g, 0, x.cps.size⟩ s) :
    wpAny (model prog w) A (reWholeTarget (.ref p) (.str x t)) Q E s := by
  obtain ⟨o, fs, c, oc, its, n, tg, tk, h1, h2, h3, h4, h5, h6, h7, h8, h9, h10⟩ := P
  unfold reWholeTarget
  refine wpAny_bind (wpAny_fieldsOf h1 h4 ?_)
  refine wpAny_bind (m := reTextOf (.str x t)) (wpAny_pure ?_)
  dsimp only
  rw [h7]
  simp only [reRawNat]
  refine wpAny_bind (m := reNoCollectionInside (.str x t) 0) (wpAny_pure ?_)
  rw [h6, h5]
  unfold reRawItems
  refine wpAny_bind (wpAny_bind (wpAny_seqItems h8 h9 (wpAny_pure ?_)))
  simp only [Option.getD_some, h10]
  exact wpAny_pure h

/-- the loop's args -/
abbrev lpA (p : Addr) (x : Str) (t : Tok) (repl : Value) (way n done start : Nat) (must : Bool) (pl : Addr) (wc : Bool) : Args :=
  ⟨[.ref p, .str x t, repl, rawInt (way : Int), rawInt (0 : Int), rawInt (n : Int), rawInt (done : Int), rawInt (start : Int), .bool must, .ref pl, .bool wc], []⟩

theorem loop_end {p pl : Addr} {x : Str} {t : Tok} {code : Array Nat} {g k way n dn st e : Nat} {must wc : Bool} {repl : Value} {pcs : List (Str × Tok)} {R : Result → Shared → Prop} (P₀ : PatAt h₀ p code g) (F : Fr h₀ L s.heap m)
    (N : News h₀ L s.heap ((pl, lstO (strValues pcs) e) :: news)) (hne : ∀ q ∈ news, q.1 ≠ pl) (hx : x.cps.size ≤ 2 ^ 19) (hk : k ≤ 2 ^ 62) (ho : ((forSearch code x.cps g st x.cps.size must).runFor k).outcome = some .failed)
    (hw : way ≠ 0 ∨ ∃ y ty, repl = .str y ty) (pcs' : List Str) (hp : pcs' = pcs.map (·.1) ++ (if dn < x.cps.size then [⟨x.cps.extract dn x.cps.size⟩] else [])) (hlen : pcs'.length ≤ 8) (hsz : pcs'.toArray.foldl (· + ·.length + (Str.mk #[]).length) 0 ≤ 2 ^ 20) (hg : (glued ⟨#[]⟩ pcs').length ≤ 2 ^ 20)
    (h : ∀ tk h' tk', Fr h₀ L h' m → News h₀ L h' news → match wc with
      | false => R (.ok (.ret (.str (glued ⟨#[]⟩ pcs') tk))) { s with heap := h', toks := tk' }
      | true => ∀ tp ti h'' tk'', Fr h₀ L h'' m → News h₀ L h'' ((tp, { cls := .type "tuple", data := .seq #[.str (glued ⟨#[]⟩ pcs') tk, .int n ti] }) :: news) → R (.ok (.ret (.ref tp))) { s with heap := h'', toks := tk'' }) :
    codeAny (model prog w) A (.builtin "re.Pattern.sub.loop" (lpA p x t repl way n dn st must pl wc)) R s := by
  refine codeAny_builtin en_loop ?_
  rw [Around.under_plainId plain_loop]
  unfold Builtin.«re.Pattern.sub.loop»
  simp only [rawInt]
  refine wpAny_bind (wp_reWhole (P₀.keeps F.keep) ?_)
  have lit : ∀ {K : Sem Fin} {Q' : Fin → Shared → Prop} {E' : Value → Shared → Prop}, wpAny (model prog w) A.in1 K Q' E' s → wpAny (model prog w) A.in1 (if ((way : Int) == 0) = true then (reLiteralCannotBeTurned repl >>= fun _ => K) else K) Q' E' s := by
    intro K Q' E' hq
    split
    · rename_i hz
      rcases hw with hw | ⟨y, ty, rfl⟩
      · exact absurd (by simpa using hz) hw
      · exact wpAny_bind (m := reLiteralCannotBeTurned (.str y ty)) (wpAny_pure hq)
    · exact hq
  refine lit ?_
  rw [if_neg (by simp)]
  unfold reNextFound
  simp only [Int.toNat_natCast]
  refine wpAny_bind (wp_reRun hk (.inr ⟨ho, ?_⟩))
  dsimp only
  -- the joined text
  have fin : ∀ (ps : List (Str × Tok)) (e' : Nat) (h₁ : Heap) (tk₁ : Nat), ps.map (·.1) = pcs' → Fr h₀ L h₁ m → News h₀ L h₁ ((pl, lstO (strValues ps) e') :: news) →
      wpAny (model prog w) A.in1 (do
        let joiner ← reSlice x.cps 0 0 0
        let __do_lift ← seqItems? (Value.ref pl)
        if (__do_lift.getD #[]).isEmpty = true then do
          let text ← pure joiner
          if wc = true then do ret (← holding [text] do newTuple [text, ← mkInt (n : Int)]) else ret text
        else do
          let text ← call (.builtin (if (0 == 0) = true then "str.join" else "bytes.join")) [joiner, .ref pl]
          if wc = true then do ret (← holding [text] do newTuple [text, ← mkInt (n : Int)]) else ret text)
        (fun fin s' => match fin with | .done f => R (.ok f) s' | .again c' => c'.quiet = true ∧ codeAny (model prog w) A c' R s') (fun e s' => R (.error e) s') { s with heap := h₁, toks := tk₁ } := by
    intro ps e' h₁ tk₁ hps F₁ N₁
    have out : ∀ (tk : Tok) (tk₂ : Nat), wpAny (model prog w) A.in1 (if wc = true then do ret (← holding [Value.str (glued ⟨#[]⟩ pcs') tk] do newTuple [Value.str (glued ⟨#[]⟩ pcs') tk, ← mkInt (n : Int)]) else ret (Value.str (glued ⟨#[]⟩ pcs') tk))
        (fun fin s' => match fin with | .done f => R (.ok f) s' | .again c' => c'.quiet = true ∧ codeAny (model prog w) A c' R s') (fun e s' => R (.error e) s') { s with heap := h₁, toks := tk₂ } := by
      intro tk tk₂
      have q := h tk h₁ tk₂ F₁ (fun p hp => N₁ p (.tail _ hp))
      cases wc with
      | false => exact wpAny_pure q
      | true =>
        simp only [if_true]
        refine wpAny_bind (wpAny_holding (wpAny_bind (wpAny_mkInt ?_)))
        refine newTuple_N (s := { s with heap := h₁, toks := tk₂ + 1 }) F₁ (fun p hp => N₁ p (.tail _ hp)) (fun h₂ F₂ N₂ => wpAny_pure (q _ _ _ _ F₂ N₂))
    have hnil : x.cps.extract 0 0 = #[] := by apply Array.ext'; simp
    unfold reSlice
    simp only [beq_self_eq_true, if_true, hnil]
    refine wpAny_bind (wpAny_mkStr ?_ (by show (#[] : Array Nat).size ≤ sizeLine; rw [sizeLine_eq]; decide))
    have hpl := (N₁ _ (.head _)).1
    refine wpAny_bind (wpAny_seqItems hpl rfl ?_)
    simp only [Option.getD_some]
    cases ps with
    | nil =>
      have : pcs' = [] := hps.symm
      subst this
      exact out _ _
    | cons q r =>
      rw [if_neg (by simp [strValues])]
      refine wpAny_bind (join_rule (l := q :: r) ⟨_, hpl, rfl, e', rfl⟩ (by rw [hps]; exact hsz) (by rw [hps]; exact hg) fun tk n => ?_)
      rw [hps]
      exact out tk n
  by_cases hd : dn < x.cps.size
  · rw [if_pos hd]
    rw [if_pos hd] at hp
    unfold reSlice
    simp only [beq_self_eq_true, if_true]
    refine wpAny_bind (wpAny_mkStr ?_ (by show (x.cps.extract dn x.cps.size).size ≤ sizeLine; rw [Array.size_extract, sizeLine_eq]; omega))
    have hl : (strValues pcs).length ≤ 2 ^ 20 := by
      have : pcs'.length = pcs.length + 1 := by rw [hp]; simp
      simp [strValues]; omega
    refine wpAny_bind (seqPush_K F N hne hl fun h₁ F₁ N₁ => ?_)
    have hv : strValues pcs ++ [Value.str ⟨x.cps.extract dn x.cps.size⟩ s.toks] = strValues (pcs ++ [(⟨x.cps.extract dn x.cps.size⟩, s.toks)]) := by simp [strValues]
    rw [hv] at N₁
    exact fin _ _ h₁ _ (by rw [hp]; simp) F₁ N₁
  · rw [if_neg hd]
    rw [if_neg hd] at hp
    exact fin pcs e s.heap s.toks (by rw [hp]; simp) F N
end
end Mine

-- part Rq
namespace Mine
open PySem PySem.Sre PySem.Spec PySem.Calls PyProof.Rows PySem.W PySem.Builtin.Re PySem.Builtin PySem.Builtin.Str
set_option maxRecDepth 100000
set_option linter.unusedSimpArgs false
set_option linter.unusedVariables false
set_option Elab.async false

section
variable {prog : Program} {w : World} {A : Around} {E : Value → Shared → Prop} {s : Shared} {h₀ : Heap} {L : Addr} {m : Str → Option Value} {news : List (Addr × Obj)}

theorem loop_call {p pl : Addr} {x : Str} {t : Tok} {code : Array Nat} {k n dn st e a b i j : Nat} {li : Int} {must wc : Bool} {repl : Value} {pcs : List (Str × Tok)} {y : Str} {R : Result → Shared → Prop} (P₀ : PatAt h₀ p code 1) (F : Fr h₀ L s.heap m)
    (N : News h₀ L s.heap ((pl, lstO (strValues pcs) e) :: news)) (hne : ∀ q ∈ news, q.1 ≠ pl) (hx : x.cps.size ≤ 2 ^ 19) (hk : k ≤ 2 ^ 62) (ho : fdOf ((forSearch code x.cps 1 st x.cps.size must).runFor k) = some ⟨true, a, b, [some i, some j], 1, li⟩) (hij : i ≤ j)
    (hlen : pcs.length ≤ 8) (ha : a ≤ x.cps.size)
    (hcall : ∀ mt tp ps' e' h₁ tk₁ (Q' : Value → Shared → Prop) (E' : Value → Shared → Prop), Fr h₀ L h₁ m → News h₀ L h₁ ((mt, mtObj (.str x t) (.ref p) x.cps.size li tp) :: (tp, spObj [(a : Int), b, i, j]) :: (pl, lstO (strValues ps') e') :: news) →
      (∀ ty h₂ tk₂, Fr h₀ L h₂ m → News h₀ L h₂ ((pl, lstO (strValues ps') e') :: news) → Q' (.str y ty) { s with heap := h₂, toks := tk₂ }) →
      wpAny (model prog w) A.in1 (call repl [.ref mt]) Q' E' { s with heap := h₁, toks := tk₁ })
    (hnext : ∀ pcs2 e' h₂ tk₂, pcs2.map (·.1) = pcs.map (·.1) ++ (if dn < a then [⟨x.cps.extract dn a⟩] else []) ++ [y] → Fr h₀ L h₂ m → News h₀ L h₂ ((pl, lstO (strValues pcs2) e') :: news) →
      codeAny (model prog w) A (.builtin "re.Pattern.sub.loop" (lpA p x t repl 1 (n + 1) b b (b == a) pl wc)) R { s with heap := h₂, toks := tk₂ }) :
    codeAny (model prog w) A (.builtin "re.Pattern.sub.loop" (lpA p x t repl 1 n dn st must pl wc)) R s := by
  refine codeAny_builtin en_loop ?_
  rw [Around.under_plainId plain_loop]
  unfold Builtin.«re.Pattern.sub.loop»
  simp only [rawInt]
  refine wpAny_bind (wp_reWhole (P₀.keeps F.keep) ?_)
  rw [if_neg (by decide)]
  rw [if_neg (by simp)]
  unfold reNextFound
  simp only [Int.toNat_natCast]
  obtain ⟨o1, o2, o3, o4, o5, o6⟩ := fdOf_yes ho
  refine wpAny_bind (wp_reRun hk (.inl ⟨o1, ?_⟩))
  dsimp only
  generalize hm : (forSearch code x.cps 1 st x.cps.size must).runFor k = M at *
  rw [if_neg (show ¬ (((1 : Nat) : Int) == 0) = true by decide)]
  -- what stands behind the slice
  have go : ∀ (ps' : List (Str × Tok)) (e' : Nat) (h₁ : Heap) (tk₁ : Nat), ps'.map (·.1) = pcs.map (·.1) ++ (if dn < a then [⟨x.cps.extract dn a⟩] else []) → ps'.length ≤ 9 → Fr h₀ L h₁ m → News h₀ L h₁ ((pl, lstO (strValues ps') e') :: news) →
      wpAny (model prog w) A.in1 (do
          let found ← reNewMatch (Value.ref p) (Value.str x t) 1 0 x.cps.size M
          let item ← holding [found] (if (((1 : Nat) : Int) == 1) = true then call repl [found] else do
              let __do_lift ← reFound found
              reExpand repl __do_lift)
          if (item != Value.none) = true then do
            updateSeq pl fun x => x.push item
            again (Code.builtin "re.Pattern.sub.loop" ⟨[Value.ref p, Value.str x t, repl, Value.int ((1 : Nat) : Int) 0, Value.int 0 0, Value.int ((n : Int) + 1) 0, Value.int (M.handed : Int) 0, Value.int (M.handed : Int) 0, Value.bool (M.handed == M.start), Value.ref pl, Value.bool wc], []⟩)
          else again (Code.builtin "re.Pattern.sub.loop" ⟨[Value.ref p, Value.str x t, repl, Value.int ((1 : Nat) : Int) 0, Value.int 0 0, Value.int ((n : Int) + 1) 0, Value.int (M.handed : Int) 0, Value.int (M.handed : Int) 0, Value.bool (M.handed == M.start), Value.ref pl, Value.bool wc], []⟩))
        (fun fin s' => match fin with | .done f => R (.ok f) s' | .again c' => c'.quiet = true ∧ codeAny (model prog w) A c' R s') (fun e s' => R (.error e) s') { s with heap := h₁, toks := tk₁ } := by
    intro ps' e' h₁ tk₁ hps hpl F₁ N₁
    refine wpAny_bind (wp_newMatch1 o2 o3 o4 o5 o6 hij ?_)
    rw [if_pos (show (((1 : Nat) : Int) == 1) = true by decide)]
    refine wpAny_bind (wpAny_holding ?_)
    have F₂ := F₁.push (spObj [(a : Int), b, i, j])
    have N₂ := N₁.push F₁ (spObj [(a : Int), b, i, j])
    have F₃ := F₂.push (mtObj (.str x t) (.ref p) x.cps.size li h₁.objs.size)
    have N₃ := N₂.push F₂ (mtObj (.str x t) (.ref p) x.cps.size li h₁.objs.size)
    rw [Heap.size_push] at N₃
    refine hcall _ _ ps' e' _ tk₁ _ _ F₃ N₃ fun ty h₂ tk₂ F₄ N₄ => ?_
    rw [if_pos (show (Value.str y ty != Value.none) = true by rfl)]
    refine wpAny_bind (seqPush_K (s := { s with heap := h₂, toks := tk₂ }) F₄ N₄ hne (by simp [strValues]; omega) fun h₃ F₅ N₅ => ?_)
    have hv : strValues ps' ++ [Value.str y ty] = strValues (ps' ++ [(y, ty)]) := by simp [strValues]
    rw [hv] at N₅
    have q := hnext (ps' ++ [(y, ty)]) _ h₃ tk₂ (by simp [hps]) F₅ N₅
    rw [o2, o3]
    exact wpAny_pure ⟨Code.quiet_builtin _ (by decide +kernel), q⟩
  by_cases hd : dn < a
  · rw [o2] at *
    rw [if_pos hd]
    rw [if_pos hd] at go
    unfold reSlice
    simp only [beq_self_eq_true, if_true]
    refine wpAny_bind (wpAny_mkStr ?_ (by show (x.cps.extract dn a).size ≤ sizeLine; rw [Array.size_extract, sizeLine_eq]; omega))
    refine wpAny_bind (seqPush_K F N hne (by simp [strValues]; omega) fun h₁ F₁ N₁ => ?_)
    have hv : strValues pcs ++ [Value.str ⟨x.cps.extract dn a⟩ s.toks] = strValues (pcs ++ [(⟨x.cps.extract dn a⟩, s.toks)]) := by simp [strValues]
    rw [hv] at N₁
    exact go _ _ h₁ _ (by simp) (by simp; omega) F₁ N₁
  · rw [o2] at *
    rw [if_neg hd]
    rw [if_neg hd] at go
    exact go pcs e s.heap s.toks (by simp) (by omega) F N
end
end Mine

-- part Ru
namespace Mine
open PySem PySem.Sre PySem.Spec PySem.Calls PyProof.Rows PySem.W PySem.Builtin.Re PySem.Builtin PySem.Builtin.Str
set_option maxRecDepth 100000
set_option linter.unusedSimpArgs false
set_option linter.unusedVariables false
set_option Elab.async false

theorem lk_call : typeLookup (.type "function") "__call__" = pure (some (.builtin "function.__call__")) := by rw [typeLookup_type, builtinLookup_eq_fast]; kernel_rfl
theorem lk_strcall : typeLookup (.type "str") "__call__" = pure none := by rw [typeLookup_type, builtinLookup_eq_fast]; kernel_rfl
theorem notByteArr : isSubtype (.type "str") (.type "bytearray") = pure false := by rw [isSubtype_type]; kernel_rfl
theorem reNamed_sub (id f : String) (v u : Value) : reNamed id f ["repl", "string", "count"] 2 [v, u] [] = pure [some v, some u, none] := by rfl

section
variable {prog : Program} {w : World} {A : Around} {E : Value → Shared → Prop} {s : Shared} {h₀ : Heap} {L : Addr} {m : Str → Option Value} {news : List (Addr × Obj)}

theorem loop_lit {p pl : Addr} {x y : Str} {t ty : Tok} {code : Array Nat} {k n st e b : Nat} {l : List (Option Nat)} {lm li : Int} {must wc : Bool} {pcs : List (Str × Tok)} {R : Result → Shared → Prop} (P₀ : PatAt h₀ p code 0) (F : Fr h₀ L s.heap m)
    (N : News h₀ L s.heap ((pl, lstO (strValues pcs) e) :: news)) (hne : ∀ q ∈ news, q.1 ≠ pl) (hx : x.cps.size ≤ 2 ^ 19) (hk : k ≤ 2 ^ 62) (ho : fdOf ((forSearch code x.cps 0 st x.cps.size must).runFor k) = some ⟨true, 0, b, l, lm, li⟩)
    (hlen : pcs.length ≤ 8)
    (hnext : ∀ e' h₂ tk₂, Fr h₀ L h₂ m → News h₀ L h₂ ((pl, lstO (strValues (pcs ++ [(y, ty)])) e') :: news) →
      codeAny (model prog w) A (.builtin "re.Pattern.sub.loop" (lpA p x t (.str y ty) 0 (n + 1) b b (b == 0) pl wc)) R { s with heap := h₂, toks := tk₂ }) :
    codeAny (model prog w) A (.builtin "re.Pattern.sub.loop" (lpA p x t (.str y ty) 0 n 0 st must pl wc)) R s := by
  refine codeAny_builtin en_loop ?_
  rw [Around.under_plainId plain_loop]
  unfold Builtin.«re.Pattern.sub.loop»
  simp only [rawInt]
  refine wpAny_bind (wp_reWhole (P₀.keeps F.keep) ?_)
  rw [if_pos (by decide)]
  refine wpAny_bind (m := reLiteralCannotBeTurned (.str y ty)) (wpAny_pure ?_)
  rw [if_neg (by simp)]
  unfold reNextFound
  simp only [Int.toNat_natCast]
  obtain ⟨o1, o2, o3, o4, o5, o6⟩ := fdOf_yes ho
  refine wpAny_bind (wp_reRun hk (.inl ⟨o1, ?_⟩))
  dsimp only
  generalize hm : (forSearch code x.cps 0 st x.cps.size must).runFor k = M at *
  rw [o2]
  rw [if_neg (Nat.lt_irrefl 0)]
  rw [if_pos (show (((0 : Nat) : Int) == 0) = true by decide)]
  refine wpAny_bind (wpAny_pure ?_)
  rw [if_pos (show (Value.str y ty != Value.none) = true by rfl)]
  refine wpAny_bind (seqPush_K F N hne (by simp [strValues]; omega) fun h₁ F₁ N₁ => ?_)
  have hv : strValues pcs ++ [Value.str y ty] = strValues (pcs ++ [(y, ty)]) := by simp [strValues]
  rw [hv] at N₁
  have q := hnext _ h₁ s.toks F₁ N₁
  rw [o3]
  exact wpAny_pure ⟨Code.quiet_builtin _ (by decide +kernel), q⟩

/-- sub by a function: from the loop's start -/
theorem sub_call {p f : Addr} {x : Str} {t : Tok} {code : Array Nat} {of : Obj} {Q : Value → Shared → Prop} (P₀ : PatAt h₀ p code 1) (F : Fr h₀ L s.heap m) (N : News h₀ L s.heap news) (hf : s.heap.get? f = some of) (hc : of.cls = .type "function")
    (h : ∀ pl h₁, Fr h₀ L h₁ m → News h₀ L h₁ ((pl, lstO (strValues []) 0) :: news) → (∀ q ∈ news, q.1 < pl) →
      codeAny (model prog w) A (.builtin "re.Pattern.sub.loop" (lpA p x t (.ref f) 1 0 0 0 false pl false)) (fun r s' => match r with | .ok (.ret v) => Q v s' | .ok _ => False | .error e => E e s') { s with heap := h₁ }) :
    wpAny (model prog w) A (call (.builtin "re.Pattern.sub") [.ref p, .ref f, .str x t]) Q E s := by
  have P := P₀.keeps F.keep
  refine wpAny_call (codeAny_call_builtin sl_sub.plain en_sub (sl_sub.check _ _ _ _ _ _ _ _ P.typeIs (ar_sub _ _ _) ?_))
  unfold Builtin.«re.Pattern.sub» reSubstitute
  dsimp only
  rw [reNamed_sub]
  refine wpAny_bind (wpAny_pure ?_)
  dsimp only
  refine wpAny_bind (wpAny_pure ?_)
  refine wpAny_bind (wpAny_specialOf (show s.TypeIs (.ref f) "function" from ⟨of, hf, hc⟩) lk_call ?_)
  simp only [Option.isSome_some, if_true]
  refine wpAny_bind (wpAny_pure ?_)
  refine wpAny_bind (wpAny_pure ?_)
  dsimp only
  refine wpAny_bind (wpAny_holding (wp_reWhole P ?_))
  simp only [beq_self_eq_true, if_true]
  unfold reNotHeld
  refine wpAny_bind (wpAny_bind (wpAny_isInstance (show s.TypeIs (.str x t) "str" from rfl) notByteArr (wpAny_pure ?_)))
  refine wpAny_bind (newList_N F N fun h₁ F₁ N₁ => ?_)
  exact wpAny_pure ⟨Code.quiet_builtin _ (by decide +kernel), h _ h₁ F₁ N₁ fun q hq => Heap.lt_size (N q hq).1⟩

theorem subn_lit {p : Addr} {x y : Str} {t ty : Tok} {code : Array Nat} {Q : Value → Shared → Prop} (P₀ : PatAt h₀ p code 0) (F : Fr h₀ L s.heap m) (N : News h₀ L s.heap news) (hy : y.cps.contains 92 = false)
    (h : ∀ pl h₁, Fr h₀ L h₁ m → News h₀ L h₁ ((pl, lstO (strValues []) 0) :: news) → (∀ q ∈ news, q.1 < pl) →
      codeAny (model prog w) A (.builtin "re.Pattern.sub.loop" (lpA p x t (.str y ty) 0 0 0 0 false pl true)) (fun r s' => match r with | .ok (.ret v) => Q v s' | .ok _ => False | .error e => E e s') { s with heap := h₁ }) :
    wpAny (model prog w) A (call (.builtin "re.Pattern.subn") [.ref p, .str y ty, .str x t]) Q E s := by
  have P := P₀.keeps F.keep
  refine wpAny_call (codeAny_call_builtin sl_subn.plain en_subn (sl_subn.check _ _ _ _ _ _ _ _ P.typeIs (ar_subn _ _ _) ?_))
  unfold Builtin.«re.Pattern.subn» reSubstitute
  dsimp only
  rw [reNamed_sub]
  refine wpAny_bind (wpAny_pure ?_)
  dsimp only
  refine wpAny_bind (wpAny_pure ?_)
  refine wpAny_bind (wpAny_specialOf (show s.TypeIs (.str y ty) "str" from rfl) lk_strcall ?_)
  simp only [Option.isSome_none, Bool.false_eq_true, if_false]
  refine wpAny_bind (m := asStr? (.str y ty)) (wpAny_pure ?_)
  dsimp only
  rw [hy]
  refine wpAny_bind (wpAny_pure ?_)
  simp only [Bool.not_false, if_true]
  refine wpAny_bind (wpAny_pure ?_)
  dsimp only
  refine wpAny_bind (wpAny_holding (wp_reWhole P ?_))
  rw [if_neg (by decide)]
  refine wpAny_bind (newList_N F N fun h₁ F₁ N₁ => ?_)
  exact wpAny_pure ⟨Code.quiet_builtin _ (by decide +kernel), h _ h₁ F₁ N₁ fun q hq => Heap.lt_size (N q hq).1⟩
end
end Mine

-- part Tx
namespace Mine
open PySem PySem.Spec PySem.Calls PyProof.Rows PySem.W PySem.Builtin PySem.Builtin.Str
set_option maxRecDepth 100000
set_option linter.unusedSimpArgs false
set_option linter.unusedVariables false
set_option Elab.async false
theorem idx_drop (n b : Nat) (hb : b ≤ n) : strSliceIndices (some (b : Int)) none 1 n = (List.range (n - b)).map (· + b) := by
  unfold strSliceIndices sliceRange
  have h1 : ¬ ((b : Int) < 0) := by omega
  simp only [h1, if_false, show (1 : Int) > 0 by decide, if_true]
  have h2 : max 0 (min (b : Int) (n : Int)) = (b : Int) := by omega
  rw [h2]
  have h3 : (if (b : Int) < (n : Int) then ((n : Int) - (b : Int) + 1 - 1) / 1 else 0).toNat = n - b := by
    split
    · rw [Int.ediv_one]; omega
    · omega
  rw [h3]
  apply List.map_congr_left
  intro k _
  omega
theorem fm_all : ∀ (l : List Nat), (List.range l.length).filterMap (fun i => l[i]?) = l
  | [] => rfl
  | a :: l => by
    rw [show (a :: l).length = l.length + 1 from rfl, List.range_succ_eq_map, List.filterMap_cons]
    show a :: (List.filterMap (fun i => (a :: l)[i]?) (List.map Nat.succ (List.range l.length))) = a :: l
    rw [List.filterMap_map]
    exact congrArg (a :: ·) (fm_all l)
theorem fm_drop (l : List Nat) (b : Nat) : ((List.range (l.length - b)).map (· + b)).filterMap (l.toArray[·]?) = l.drop b := by
  have := fm_all (l.drop b)
  rw [List.length_drop] at this
  rw [List.filterMap_map]
  conv => rhs; rw [← this]
  apply congrArg (fun f => List.filterMap f _)
  funext i
  simp [Nat.add_comm]
theorem slice_drop (x : Str) (b : Nat) (hb : b ≤ x.length) : Txt.slice x (some (b : Int)) none = ⟨(x.cps.toList.drop b).toArray⟩ := by
  unfold Txt.slice
  have hl : x.cps.toList.length = x.length := by simp [Str.length]
  rw [idx_drop _ _ hb]
  split
  · rename_i h
    have h : x.length - b = x.length := by simpa using h
    have : b = 0 ∨ x.length = 0 := by omega
    rcases this with rfl | h0
    · simp
    · have hn : x.cps.toList = [] := List.eq_nil_of_length_eq_zero (by rw [hl, h0])
      obtain ⟨⟨l⟩⟩ := x
      simp at hn
      subst hn
      simp
  · have := fm_drop x.cps.toList b
    rw [hl] at this
    rw [← this]
theorem slice_to0 (x : Str) : Txt.slice x none (some 0) = ⟨#[]⟩ := by
  unfold Txt.slice
  have : strSliceIndices none (some 0) 1 x.length = [] := by
    unfold strSliceIndices sliceRange
    have h2 : max 0 (min (0 : Int) (x.length : Int)) = 0 := by omega
    simp only [show ¬ ((0 : Int) < 0) by decide, if_false, show (1 : Int) > 0 by decide, if_true, h2]
    rfl
  rw [this]
  split
  · rename_i h
    have h : 0 = x.length := by simpa using h
    obtain ⟨⟨l⟩⟩ := x
    have : l = [] := List.eq_nil_of_length_eq_zero h.symm
    subst this; rfl
  · rfl
theorem str_nil_app (x : Str) : (⟨#[]⟩ : Str) ++ x = x := Str.empty_append x
theorem cut_text (x : Str) (b : Nat) (hb : b ≤ x.length) : Txt.slice x none (some 0) ++ Txt.slice x (some (b : Int)) none = ⟨(x.cps.toList.drop b).toArray⟩ := by
  rw [slice_to0, slice_drop x b hb, str_nil_app]
theorem lstrip_same (x : Str) (c : Nat) (r : List Nat) (hx : x = ⟨(c :: r).toArray⟩) (hc : Unicode.isSpace c = false) : Txt.lstrip x = x := by
  subst hx
  unfold Txt.lstrip Txt.stripBy
  have : stripSame Unicode.isSpace true false ⟨(c :: r).toArray⟩ = true := by
    unfold stripSame
    have e : stripLo Unicode.isSpace true ⟨(c :: r).toArray⟩ = 0 := by
      unfold stripLo
      simp [hc]
    rw [e]
    unfold stripHi
    simp
  rw [if_pos this]
theorem starts_comma (r : List Nat) : Txt.startswith ⟨(44 :: r).toArray⟩ (Str.ofString ",") = true := by
  unfold Txt.startswith subAt
  have : (Str.ofString ",") = ⟨#[44]⟩ := by decide +kernel
  rw [this]
  simp [Str.length]
theorem starts_other (c : Nat) (r : List Nat) (hc : c ≠ 44) : Txt.startswith ⟨(c :: r).toArray⟩ (Str.ofString ",") = false := by
  unfold Txt.startswith subAt
  have : (Str.ofString ",") = ⟨#[44]⟩ := by decide +kernel
  rw [this]
  simp [Str.length, hc]
end Mine

-- part Ka
namespace Mine
open PySem PySem.Sre PySem.Spec PySem.Calls PyProof.Rows PySem.W PySem.Builtin.Re PySem.Builtin PySem.Builtin.Str
set_option maxRecDepth 100000
set_option linter.unusedSimpArgs false
set_option linter.unusedVariables false
set_option Elab.async false
abbrev prg : Program := PySem.Challenge.rw_re0071_01.row.prog

def cut (x : Str) (b : Nat) : Str := ⟨(x.cps.toList.drop b).toArray⟩
theorem cut_len (x : Str) (b : Nat) : (cut x b).length ≤ x.length := by
  show ((x.cps.toList.drop b).toArray).size ≤ x.cps.size
  simp
theorem lk_bool : typeLookup (.type "re.Match") "__bool__" = pure none := by rw [typeLookup_type, builtinLookup_eq_fast]; kernel_rfl
theorem lk_len : typeLookup (.type "re.Match") "__len__" = pure none := by rw [typeLookup_type, builtinLookup_eq_fast]; kernel_rfl

section
variable {prog : Program} {w : World} {A : Around} {E : Value → Shared → Prop} {s : Shared} {h₀ : Heap} {L : Addr} {m : Str → Option Value} {news : List (Addr × Obj)}
theorem mtAt_of {h : Heap} {mt tp : Addr} {x : Str} {t : Tok} {pat : Value} {lim : Nat} {li : Int} {l : List Int} (N : News h₀ L h news) (h1 : (mt, mtObj (.str x t) pat lim li tp) ∈ news) (h2 : (tp, spObj l) ∈ news) : MtAt h mt x t l :=
  ⟨_, _, tp, _, 0, (N _ h1).1, rfl, rfl, rfl, rfl, rfl, rfl, (N _ h2).1, rfl⟩
theorem truthy_match {M : Model} {mt : Addr} {x : Str} {t : Tok} {l : List Int} {Q : Bool → Shared → Prop} (P : MtAt s.heap mt x t l) (h : Q true s) : wpAny M A (truthy (.ref mt)) Q E s := by
  unfold truthy
  refine wpAny_bind (m := callSpecial? (.ref mt) (Str.ofString "__bool__")) (wpAny_bind (wpAny_specialOf P.typeIs lk_bool (wpAny_pure ?_)))
  refine wpAny_bind (wpAny_specialOf P.typeIs lk_len ?_)
  exact wpAny_pure h
theorem MtAt.plain {h : Heap} {mt : Addr} {x : Str} {t : Tok} {l : List Int} (P : MtAt h mt x t l) : ∀ a, Value.ref mt = .ref a → ∃ o, h.get? a = some o ∧ o.dict = none := by
  rintro a ⟨⟩
  obtain ⟨o, fs, tp, ot, n, h1, h2, h3, _⟩ := P
  exact ⟨o, h1, h3⟩
theorem PatAt.plain {h : Heap} {p : Addr} {c : Array Nat} {g : Nat} (P : PatAt h p c g) : ∀ a, Value.ref p = .ref a → ∃ o, h.get? a = some o ∧ o.dict = none := by
  rintro a ⟨⟩
  obtain ⟨o, fs, c, oc, its, n, tg, tk, h1, h2, h3, _⟩ := P
  exact ⟨o, h1, h3⟩
theorem gm_span {mt : Addr} {x : Str} {t : Tok} {l : List Int} {pl : Sem Bool} {Q : Value × List Value → Shared → Prop} (P : MtAt s.heap mt x t l) (h : Q (.builtin "re.Match.span", [.ref mt]) s) :
    wpAny (model prog w) A (getMethod (.ref mt) "span" pl) Q E s := getMethod_builtin P.typeIs pa_Match sl_span ty_span P.plain h
theorem gm_group {mt : Addr} {x : Str} {t : Tok} {l : List Int} {pl : Sem Bool} {Q : Value × List Value → Shared → Prop} (P : MtAt s.heap mt x t l) (h : Q (.builtin "re.Match.group", [.ref mt]) s) :
    wpAny (model prog w) A (getMethod (.ref mt) "group" pl) Q E s := getMethod_builtin P.typeIs pa_Match sl_group ty_group P.plain h
theorem gm_search {p : Addr} {c : Array Nat} {g : Nat} {pl : Sem Bool} {Q : Value × List Value → Shared → Prop} (P : PatAt s.heap p c g) (h : Q (.builtin "re.Pattern.search", [.ref p]) s) :
    wpAny (model prog w) A (getMethod (.ref p) "search" pl) Q E s := getMethod_builtin P.typeIs pa_Pattern sl_search ty_search P.plain h
theorem gm_fullmatch {p : Addr} {c : Array Nat} {g : Nat} {pl : Sem Bool} {Q : Value × List Value → Shared → Prop} (P : PatAt s.heap p c g) (h : Q (.builtin "re.Pattern.fullmatch", [.ref p]) s) :
    wpAny (model prog w) A (getMethod (.ref p) "fullmatch" pl) Q E s := getMethod_builtin P.typeIs pa_Pattern sl_fullmatch ty_fullmatch P.plain h
theorem gm_sub {p : Addr} {c : Array Nat} {g : Nat} {pl : Sem Bool} {Q : Value × List Value → Shared → Prop} (P : PatAt s.heap p c g) (h : Q (.builtin "re.Pattern.sub", [.ref p]) s) :
    wpAny (model prog w) A (getMethod (.ref p) "sub" pl) Q E s := getMethod_builtin P.typeIs pa_Pattern sl_sub ty_sub P.plain h
theorem gm_subn {p : Addr} {c : Array Nat} {g : Nat} {pl : Sem Bool} {Q : Value × List Value → Shared → Prop} (P : PatAt s.heap p c g) (h : Q (.builtin "re.Pattern.subn", [.ref p]) s) :
    wpAny (model prog w) A (getMethod (.ref p) "subn" pl) Q E s := getMethod_builtin P.typeIs pa_Pattern sl_subn ty_subn P.plain h
theorem span_K {mt tp : Addr} {x : Str} {t tk : Tok} {pat : Value} {lim : Nat} {li a b : Int} {r : List Int} {Q : Value → Shared → Prop} (F : Fr h₀ L s.heap m) (N : News h₀ L s.heap news) (h1 : (mt, mtObj (.str x t) pat lim li tp) ∈ news) (h2 : (tp, spObj (a :: b :: r)) ∈ news)
    (h : ∀ q t1 t2 h' tk', Fr h₀ L h' m → News h₀ L h' ((q, { cls := .type "tuple", data := .seq #[.int a t1, .int b t2] }) :: news) → (∀ p ∈ news, p.1 < q) → Q (.ref q) { s with heap := h', toks := tk' }) :
    wpAny (model prog w) A (call (.builtin "re.Match.span") [.ref mt, .int 0 tk]) Q E s :=
  span_rule (mtAt_of N h1 h2) (h _ _ _ _ _ (F.push _) (N.push F _) fun p hp => Heap.lt_size (N p hp).1)
end

local macro_rules | `(tactic| walk_at "getMethod ref") => `(tactic| (k_here; (with_reducible show wpAny _ _ (getMethod (Value.ref _) (PySem.Str.ofString "span") _) _ _ _); k_dflt (refine' gm_span ?k1 ?_; (case k1 => exact mtAt_of (by k_asm) (by k_mem) (by k_mem)); k_whole)))
local macro_rules | `(tactic| walk_at "call builtin:re.Match.span") => `(tactic| (k_here; k_dflt (refine' span_K ?k1 ?k2 ?k3 ?k4 ?_; (case k1 | k2 => k_asm); (case k3 | k4 => k_mem); k_whole); intro q' t1' t2' h' tk' F' N' l1; (try k_lt l1); (try k_sweep)))
local macro_rules | `(tactic| walk_at "getAttr ref") => `(tactic| (k_here; (with_reducible show wpAny _ _ (getAttr (Value.ref _) (PySem.Str.ofString "string") _) _ _ _); k_dflt (refine' string_rule ?k1 ?_; (case k1 => exact mtAt_of (by k_asm) (by k_mem) (by k_mem)); k_whole)))

set_option maxHeartbeats 4000000 in
theorem unmatched_spec (w : World) (p : Program) (loose : List Str) (mean : ExcName → Option Value) (mg mb : Str → Option Value)
  (dp un : Nat) (gd : Option (List Code)) (cn : Str) (cs : Scope) (a : Addr) (ccd : Value) (cl : List (Str × Addr)) (outer : List Env) (A₀ : Around) (base h₀ : Heap) (L : Addr) (m : Str → Option Value) (news : List (Addr × Obj)) (s : Shared) 
    (mt tp : Addr) (x : Str) (t : Tok) (pat : Value) (lim : Nat) (li : Int) (b : Nat) (r : List Int) (Q E : Value → Shared → Prop)
    (B : Below A₀ base outer h₀) (F : Fr h₀ L s.heap m) (X : (hd.heap_39 w.params).In h₀) (N : News h₀ L s.heap ((mt, mtObj (.str x t) pat lim li tp) :: (tp, spObj ((0 : Int) :: (b : Int) :: r)) :: news)) (T : Top p loose mean mg mb h₀) (hk : cs.kind = .function) 
    (hx : x.length ≤ 2 ^ 19) (hb : b ≤ x.length) (hdp : dp + 1 < recursionLimit) (hu : un + 8 < cLine)
    (hret : ∀ tk h' tk', (cut x b).length ≤ x.length → Fr h₀ L h' m → News h₀ L h' ((mt, mtObj (.str x t) pat lim li tp) :: (tp, spObj ((0 : Int) :: (b : Int) :: r)) :: news) → Q (.str (cut x b) tk) { s with heap := h', toks := tk' }) :
    wpAny (model prg w) (ktrTop dp un gd cn cs L a ccd cl outer) (call (.ref 43) [.ref mt]) Q E s := by
  w_top off
  have : (PySem.Challenge.rw_re0071_01, hd.heap_39) = (PySem.Challenge.rw_re0071_01, hd.heap_39) := by
    k_fill
    rfl
  clear this
  refine wpAny_call ?_
  k_dflt cell_enter
  k_steps
  rw [cut_text x b hb]
  exact hret _ _ _ (cut_len x b) (by k_asm) (cb_drop (by assumption) (by intro q hq; repeat (first | exact hq | apply List.mem_cons_of_mem)))
end Mine

-- part Sg
namespace Mine
open PySem PySem.Sre PySem.Spec PySem.Calls PyProof.Rows PySem.W PySem.Builtin.Re PySem.Builtin PySem.Builtin.Str
set_option maxRecDepth 100000
set_option linter.unusedSimpArgs false
set_option linter.unusedVariables false
set_option Elab.async false

def fails (m : M) : Prop := ∃ k, k ≤ 2 ^ 62 ∧ (m.runFor k).outcome = some .failed
def finds (m : M) (f : Fd) : Prop := ∃ k, k ≤ 2 ^ 62 ∧ fdOf (m.runFor k) = some f
def endPcs (x : Str) (dn : Nat) : List Str := if dn < x.cps.size then [⟨x.cps.extract dn x.cps.size⟩] else []
def begPcs (x : Str) (a : Nat) : List Str := if 0 < a then [⟨x.cps.extract 0 a⟩] else []

/-- what sub by a function makes of a text with at most one hit -/
inductive SubOne (code : Array Nat) (pre x : Str) : Str → Prop
  | none {y : Str} : fails (forSearch code x.cps 1 0 x.cps.size false) → glued ⟨#[]⟩ (endPcs x 0) = y → SubOne code pre x y
  | one {y : Str} {a b i j : Nat} {li : Int} : finds (forSearch code x.cps 1 0 x.cps.size false) ⟨true, a, b, [some i, some j], 1, li⟩ → i ≤ j → a ≤ x.cps.size →
      fails (forSearch code x.cps 1 b x.cps.size (b == a)) → glued ⟨#[]⟩ (begPcs x a ++ [pre ++ ⟨x.cps.extract i j⟩] ++ endPcs x b) = y → (begPcs x a ++ [pre ++ ⟨x.cps.extract i j⟩] ++ endPcs x b).toArray.foldl (· + ·.length + (Str.mk #[]).length) 0 ≤ 2 ^ 20 → SubOne code pre x y

section
variable {prog : Program} {w : World} {A : Around} {E : Value → Shared → Prop} {s : Shared} {h₀ : Heap} {L : Addr} {m : Str → Option Value} {news : List (Addr × Obj)}
theorem sub_one {p f : Addr} {pre x y : Str} {t : Tok} {code : Array Nat} {of : Obj} {Q : Value → Shared → Prop} (O : SubOne code pre x y) (hx : x.cps.size ≤ 100) (hy : y.length ≤ 1000) (P₀ : PatAt h₀ p code 1) (F : Fr h₀ L s.heap m) (N : News h₀ L s.heap news) (hf : (f, of) ∈ news) (hc : of.cls = .type "function")
    (hcall : ∀ a b i j li mt tp ps' e' pl h₁ tk₁ (Q' : Value → Shared → Prop) (E' : Value → Shared → Prop), (∀ q ∈ news, q.1 < pl) → Fr h₀ L h₁ m →
      News h₀ L h₁ ((mt, mtObj (.str x t) (.ref p) x.cps.size li tp) :: (tp, spObj [a, b, ((i : Nat) : Int), ((j : Nat) : Int)]) :: (pl, lstO (strValues ps') e') :: news) →
      (∀ ty h₂ tk₂, Fr h₀ L h₂ m → News h₀ L h₂ ((pl, lstO (strValues ps') e') :: news) → Q' (.str (pre ++ ⟨x.cps.extract i j⟩) ty) { s with heap := h₂, toks := tk₂ }) →
      wpAny (model prog w) A.in1 (call (.ref f) [.ref mt]) Q' E' { s with heap := h₁, toks := tk₁ })
    (h : ∀ tk h' tk', Fr h₀ L h' m → News h₀ L h' news → Q (.str y tk) { s with heap := h', toks := tk' }) :
    wpAny (model prog w) A (call (.builtin "re.Pattern.sub") [.ref p, .ref f, .str x t]) Q E s := by
  refine sub_call P₀ F N (N _ hf).1 hc fun pl h₁ F₁ N₁ hlt => ?_
  have hne : ∀ q ∈ news, q.1 ≠ pl := fun q hq => Nat.ne_of_lt (hlt q hq)
  cases O with
  | none hfail hg =>
    obtain ⟨k, hk, ho⟩ := hfail
    refine loop_end (s := { s with heap := h₁ }) P₀ F₁ N₁ hne (by omega) hk ho (.inl (by decide)) (endPcs x 0) rfl ?_ ?_ ?_ ?_
    · unfold endPcs; split <;> simp
    · unfold endPcs
      split
      · simp [Str.length]; omega
      · simp
    · rw [hg]; omega
    · intro tk h' tk' F' N'
      rw [hg]
      exact h tk h' tk' F' N'
  | @one a b i j li hfind hij ha hfail hg hsz =>
    obtain ⟨k, hk, ho⟩ := hfind
    obtain ⟨k2, hk2, ho2⟩ := hfail
    refine loop_call (s := { s with heap := h₁ }) (y := pre ++ ⟨x.cps.extract i j⟩) P₀ F₁ N₁ hne (by omega) hk ho hij (by simp) ha ?_ ?_
    · intro mt tp ps' e' h₂ tk₂ Q' E' F₂ N₂ ret
      exact hcall _ _ _ _ _ mt tp ps' e' pl h₂ tk₂ Q' E' hlt F₂ N₂ ret
    · intro pcs2 e' h₂ tk₂ hp F₂ N₂
      refine loop_end (s := { s with heap := h₂, toks := tk₂ }) P₀ F₂ N₂ hne (by omega) hk2 ho2 (.inl (by decide)) (begPcs x a ++ [pre ++ ⟨x.cps.extract i j⟩] ++ endPcs x b) (by rw [hp]; simp [begPcs, endPcs]) ?_ ?_ ?_ ?_
      · have : ∀ (a b : List Str) (c : Str), a.length ≤ 1 → b.length ≤ 1 → (a ++ [c] ++ b).length ≤ 8 := by intro a b c h1 h2; simp; omega
        apply this
        · unfold begPcs; split <;> simp
        · unfold endPcs; split <;> simp
      · exact hsz
      · show (glued ⟨#[]⟩ (begPcs x a ++ [pre ++ ⟨x.cps.extract i j⟩] ++ endPcs x b)).length ≤ _
        rw [hg]; omega
      · intro tk h' tk' F' N'
        have q := h tk h' tk' F' N'
        rw [← hg] at q
        exact q
end

theorem fails_of {m : M} {k : Nat} (hk : k ≤ 2 ^ 62) (h : fdOf (m.runFor k) = some ⟨false, 0, 0, [], 0, 0⟩) : fails m := by
  refine ⟨k, hk, ?_⟩
  unfold fdOf at h
  split at h
  · simp at h
  · assumption
  · cases h
/-- the texts that join escapes, and what comes of them -/
def jset : List Str := [⟨#[]⟩, ⟨#[98, 34]⟩, ⟨#[92, 44, 32, 97]⟩, ⟨#[97, 59]⟩]
def jesc (x : Str) : Str := ⟨(x.cps.toList.flatMap fun c => if c = 34 ∨ c = 92 then [92, c] else [c]).toArray⟩
theorem jsub (x : Str) (hx : x ∈ jset) : SubOne jescC (Str.ofString "\\") x (jesc x) := by
  simp only [jset, List.mem_cons, List.not_mem_nil, or_false] at hx
  rcases hx with rfl | rfl | rfl | rfl
  · exact .none (fails_of (k := 40) (by decide) (by decide +kernel)) (by decide +kernel)
  · exact .one (a := 1) (b := 2) (i := 1) (j := 2) (li := 1) ⟨40, by decide, by decide +kernel⟩ (by decide) (by decide) (fails_of (k := 40) (by decide) (by decide +kernel)) (by decide +kernel) (by decide +kernel)
  · exact .one (a := 0) (b := 1) (i := 0) (j := 1) (li := 1) ⟨40, by decide, by decide +kernel⟩ (by decide) (by decide) (fails_of (k := 40) (by decide) (by decide +kernel)) (by decide +kernel) (by decide +kernel)
  · exact .none (fails_of (k := 40) (by decide) (by decide +kernel)) (by decide +kernel)
/-- the texts that split unescapes -/
def sset : List (Str × Str) := [(⟨#[]⟩, ⟨#[]⟩), (⟨#[98, 92, 34]⟩, ⟨#[98, 34]⟩), (⟨#[92, 92, 44, 32, 97]⟩, ⟨#[92, 44, 32, 97]⟩), (⟨#[97, 59]⟩, ⟨#[97, 59]⟩)]
theorem ssub (x y : Str) (hx : (x, y) ∈ sset) : SubOne escC (Str.ofString "") x y := by
  simp only [sset, List.mem_cons, List.not_mem_nil, or_false, Prod.mk.injEq] at hx
  rcases hx with ⟨rfl, rfl⟩ | ⟨rfl, rfl⟩ | ⟨rfl, rfl⟩ | ⟨rfl, rfl⟩
  · exact .none (fails_of (k := 40) (by decide) (by decide +kernel)) (by decide +kernel)
  · exact .one (a := 1) (b := 3) (i := 2) (j := 3) (li := 1) ⟨40, by decide, by decide +kernel⟩ (by decide) (by decide) (fails_of (k := 40) (by decide) (by decide +kernel)) (by decide +kernel) (by decide +kernel)
  · exact .one (a := 0) (b := 2) (i := 1) (j := 2) (li := 1) ⟨40, by decide, by decide +kernel⟩ (by decide) (by decide) (fails_of (k := 40) (by decide) (by decide +kernel)) (by decide +kernel) (by decide +kernel)
  · exact .none (fails_of (k := 40) (by decide) (by decide +kernel)) (by decide +kernel)
end Mine

-- part Li
namespace Mine
open PySem PySem.Spec PySem.Calls PyProof.Rows PySem.W PySem.Builtin PySem.Builtin.Str
set_option maxRecDepth 100000
set_option linter.unusedSimpArgs false
set_option linter.unusedVariables false
set_option Elab.async false
section
variable {prog : Program} {w : World} {A : Around} {E : Value → Shared → Prop} {s : Shared} {env : Env} {h₀ : Heap} {target : Expr} {body : List Stmt} {Q : Flow → Shared → Prop}

/-- how a turn of a loop over a ledger list ends -/
def TEnd (h₀ : Heap) (L : Addr) (J : (Str → Option Value) → List (Addr × Obj) → Prop) (I : Addr) (oI : Obj) (ax : Addr) (lo : Obj) (s₁ s₂ : Shared) : Prop :=
  ∃ h' tk m' news', s₂ = { s₁ with heap := h', toks := tk } ∧ Fr h₀ L h' m' ∧ News h₀ L h' ((I, oI) :: news') ∧ (∀ p ∈ news', p.1 ≠ I) ∧ (ax, lo) ∈ news' ∧ J m' news'
def TPost (h₀ : Heap) (L : Addr) (J : (Str → Option Value) → List (Addr × Obj) → Prop) (I : Addr) (oI : Obj) (ax : Addr) (lo : Obj) (s₁ : Shared) (Q : Flow → Shared → Prop) (f : Flow) (s₂ : Shared) : Prop :=
  match f with
  | .ret v => Q (.ret v) s₂
  | .brk => Q .next s₂
  | _ => TEnd h₀ L J I oI ax lo s₁ s₂

theorem items_inv {ax I : Addr} {lo : Obj} {vs : List Value} (J : Nat → (Str → Option Value) → List (Addr × Obj) → Prop)
    (turn : ∀ i v m₁ news₁ h tk oI, vs[i]? = some v → J i m₁ news₁ → (∀ p ∈ news₁, p.1 ≠ I) → Fr h₀ env.locals h m₁ → News h₀ env.locals h ((I, oI) :: news₁) →
      wpAny (model prog w) A (assign target env v) (fun _ s₂ => wpAny (model prog w) A (execs body env) (TPost h₀ env.locals (J (i + 1)) I oI ax lo { s with heap := h, toks := tk } Q) E s₂) E { s with heap := h, toks := tk })
    (done : ∀ m₁ news₁ h tk, J vs.length m₁ news₁ → Fr h₀ env.locals h m₁ → News h₀ env.locals h news₁ → Q .next { s with heap := h, toks := tk }) :
    ∀ (k i : Nat) (m : Str → Option Value) (news : List (Addr × Obj)), vs.length = i + k → J i m news → (∀ p ∈ news, p.1 ≠ I) →
      ItemsRest prog w A E h₀ env target body Q s [(I, "list_iterator")] [(ax, lo)] ((vs.drop i).map .val) m news
  | 0, i, m, news, hk, hj, hoff => by
    have : vs.drop i = [] := List.drop_eq_nil_of_le (by omega)
    rw [this]
    have e : i = vs.length := by omega
    subst e
    exact ItemsRest.zero fun h tk F N => done m news h tk hj F N
  | k + 1, i, m, news, hk, hj, hoff => by
    have hi : i < vs.length := by omega
    rw [List.drop_eq_getElem_cons hi, List.map_cons]
    refine ItemsRest.val fun h tk F => AllObj.cons fun oI hc => AllObj.nil fun N => ?_
    refine wpAny_mono (turn i vs[i] m news h tk oI (List.getElem?_eq_getElem hi) hj hoff F N) (fun _ s₂ hb => wpAny_mono hb (fun f s₃ hp => ?_) fun _ _ x => x) fun _ _ x => x
    have fin : TEnd h₀ env.locals (J (i + 1)) I oI ax lo { s with heap := h, toks := tk } s₃ → UnrEndW h₀ env.locals { s with heap := h, toks := tk } [(I, oI)] (fun m' n' => SubL [(ax, lo)] n' ∧ ItemsRest prog w A E h₀ env target body Q s [(I, "list_iterator")] [(ax, lo)] ((vs.drop (i + 1)).map .val) m' n') s₃ := by
      rintro ⟨h', tk', m', news', e, F', N', off, hm, hJ⟩
      exact ⟨h', tk', m', news', e, F', N', fun p hp q hq => by rw [List.mem_singleton.mp hq]; exact off p hp, ⟨hm, trivial⟩, items_inv J turn done k (i + 1) m' news' (by omega) hJ off⟩
    cases f with
    | ret v => exact hp
    | brk => exact hp
    | next => exact fin hp
    | cont => exact fin hp

theorem list_inv {ax : Addr} {lo : Obj} {vs : List Value} {n : Nat} {m₀ : Str → Option Value} {news : List (Addr × Obj)} (J : Nat → (Str → Option Value) → List (Addr × Obj) → Prop)
    (hh : A.handled = none) (F : Fr h₀ env.locals s.heap m₀) (N : News h₀ env.locals s.heap news) (hm : (ax, lo) ∈ news) (hc : lo.cls = .type "list") (hd : lo.data = .seq vs.toArray n) (hj : J 0 m₀ news)
    (turn : ∀ I i v m₁ news₁ h tk oI, (∀ p ∈ news, p.1 < I) → vs[i]? = some v → J i m₁ news₁ → (∀ p ∈ news₁, p.1 ≠ I) → Fr h₀ env.locals h m₁ → News h₀ env.locals h ((I, oI) :: news₁) →
      wpAny (model prog w) A (assign target env v) (fun _ s₂ => wpAny (model prog w) A (execs body env) (TPost h₀ env.locals (J (i + 1)) I oI ax lo { s with heap := h, toks := tk } Q) E s₂) E { s with heap := h, toks := tk })
    (done : ∀ m₁ news₁ h tk, J vs.length m₁ news₁ → Fr h₀ env.locals h m₁ → News h₀ env.locals h news₁ → Q .next { s with heap := h, toks := tk }) :
    wpAny (model prog w) A (pyIter (.ref ax)) (fun it s₂ => TurnsAt prog w A h₀ env target body Q E it s₂) E s :=
  iter_listTurns hh F N hm hc hd fun I hI => by
    have := items_inv (I := I) J (fun i v m₁ news₁ h tk oI => turn I i v m₁ news₁ h tk oI hI) done vs.length 0 m₀ news (by omega) hj (fun p hp => Nat.ne_of_lt (hI p hp))
    rw [List.drop_zero] at this
    exact this
theorem map_one {m : Str → Option Value} {x : Str} {v : Value} (h : m x = some v) : m = fun y => if y = x then some v else m y := by
  funext y
  split
  · rename_i e; rw [e, h]
  · rfl
end
end Mine

-- part Wd
namespace Mine
open PySem PySem.Sre PySem.Spec PySem.Calls PyProof.Rows PySem.W PySem.Builtin.Re PySem.Builtin PySem.Builtin.Str
set_option maxRecDepth 100000
set_option linter.unusedSimpArgs false
set_option linter.unusedVariables false
set_option Elab.async false

/-- a key and its value, if any -/
abbrev KV := Str × Option Str
def wd : Nat → List KV
  | 0 => [("a", none)]
  | 1 => [("a", some "")]
  | 2 => [("a", some "b")]
  | 3 => [("a", some "b\"")]
  | 4 => [("a", some "\\, a")]
  | _ => [("a", none), ("b", some "a;")]
def txt : Nat → Str
  | 0 => "a"
  | 1 => "a=\"\""
  | 2 => "a=b"
  | 3 => "a=\"b\\\"\""
  | 4 => "a=\"\\\\, a\""
  | _ => "a; b=\"a;\""
/-- how join writes one pair -/
def kvText (p : KV) : Str := match p.2 with
  | none => p.1
  | some v => if v = "b" then p.1 ++ "=" ++ v else p.1 ++ "=" ++ ("\"" ++ jesc v ++ "\"")
theorem txt_is (i : Nat) : glued "; " ((wd i).map kvText) = txt i := by
  unfold wd txt
  split <;> decide +kernel
def kvOk (p : KV) : Prop := (p.1 = "a" ∨ p.1 = "b") ∧ ∀ v, p.2 = some v → v = "b" ∨ v ∈ jset
theorem wd_ok (i : Nat) : ∀ p ∈ wd i, kvOk p := by
  unfold wd
  split <;> (intro p hp; simp only [List.mem_cons, List.not_mem_nil, or_false] at hp; first | subst hp | rcases hp with rfl | rfl)
  all_goals (refine ⟨by decide +kernel, fun v hv => ?_⟩; first | (cases hv; done) | (cases hv; decide +kernel))

abbrev tupO (ys : List Value) : Obj := { cls := .type "tuple", data := .seq ys.toArray }
def ValIs (v : Value) : Option Str → Prop
  | none => v = .none
  | some x => ∃ t, v = .str x t
def PairIn (news : List (Addr × Obj)) (v : Value) (p : KV) : Prop := ∃ t tk u, v = .ref t ∧ (t, tupO [.str p.1 tk, u]) ∈ news ∧ ValIs u p.2
def PairsIn (news : List (Addr × Obj)) : List Value → List KV → Prop
  | [], [] => True
  | v :: vs, p :: ps => PairIn news v p ∧ PairsIn news vs ps
  | _, _ => False
/-- a list of pairs in the ledger -/
def WordIn (news : List (Addr × Obj)) (v : Value) (l : List KV) : Prop := ∃ r ts e, v = .ref r ∧ (r, lstO ts e) ∈ news ∧ PairsIn news ts l
def WordsIn (news : List (Addr × Obj)) : List Value → List (List KV) → Prop
  | [], [] => True
  | v :: vs, p :: ps => WordIn news v p ∧ WordsIn news vs ps
  | _, _ => False
theorem PairsIn.mono {n n' : List (Addr × Obj)} (h : ∀ p ∈ n, p ∈ n') : ∀ {vs : List Value} {ps : List KV}, PairsIn n vs ps → PairsIn n' vs ps
  | [], [], _ => trivial
  | _ :: _, _ :: _, ⟨⟨t, tk, u, e, hm, hv⟩, r⟩ => ⟨⟨t, tk, u, e, h _ hm, hv⟩, PairsIn.mono h r⟩
theorem WordIn.mono {n n' : List (Addr × Obj)} (h : ∀ p ∈ n, p ∈ n') {v : Value} {l : List KV} : WordIn n v l → WordIn n' v l
  | ⟨r, ts, e, a, b, c⟩ => ⟨r, ts, e, a, h _ b, c.mono h⟩
theorem WordsIn.mono {n n' : List (Addr × Obj)} (h : ∀ p ∈ n, p ∈ n') : ∀ {vs : List Value} {ps : List (List KV)}, WordsIn n vs ps → WordsIn n' vs ps
  | [], [], _ => trivial
  | _ :: _, _ :: _, ⟨a, r⟩ => ⟨a.mono h, WordsIn.mono h r⟩
theorem PairsIn.len {n : List (Addr × Obj)} : ∀ {vs : List Value} {ps : List KV}, PairsIn n vs ps → vs.length = ps.length
  | [], [], _ => rfl
  | _ :: _, _ :: _, ⟨_, r⟩ => by simp [r.len]
theorem WordsIn.len {n : List (Addr × Obj)} : ∀ {vs : List Value} {ps : List (List KV)}, WordsIn n vs ps → vs.length = ps.length
  | [], [], _ => rfl
  | _ :: _, _ :: _, ⟨_, r⟩ => by simp [r.len]
theorem PairsIn.at {n : List (Addr × Obj)} : ∀ {vs : List Value} {ps : List KV} {i : Nat} {v : Value}, PairsIn n vs ps → vs[i]? = some v → ∃ p, ps[i]? = some p ∧ PairIn n v p
  | _ :: _, p :: _, 0, v, ⟨a, _⟩, e => by cases e; exact ⟨p, rfl, a⟩
  | _ :: _, _ :: _, i + 1, v, ⟨_, r⟩, e => r.at (i := i) e
theorem WordsIn.at {n : List (Addr × Obj)} : ∀ {vs : List Value} {ps : List (List KV)} {i : Nat} {v : Value}, WordsIn n vs ps → vs[i]? = some v → ∃ p, ps[i]? = some p ∧ WordIn n v p
  | _ :: _, p :: _, 0, v, ⟨a, _⟩, e => by cases e; exact ⟨p, rfl, a⟩
  | _ :: _, _ :: _, i + 1, v, ⟨_, r⟩, e => r.at (i := i) e

/-- a def's table of inner codes: empty, or one lambda's -/
inductive TabOk (ln cl : Nat) (q : Str) (Gd : Addr → Prop) (news : List (Addr × Obj)) : Array Value → Prop
  | none : TabOk ln cl q Gd news #[]
  | some {c' : Addr} {oc : Obj} {vs : Array Value} {t : Tok} : Gd c' → (c', oc) ∈ news → oc.data = .fields vs → vs[1]? = some (.str q t) → TabOk ln cl q Gd news #[rawInt ln, rawInt cl, .ref c']
theorem TabOk.mono {ln cl : Nat} {q : Str} {Gd : Addr → Prop} {n n' : List (Addr × Obj)} {ps : Array Value} (h : ∀ p ∈ n, p ∈ n') : TabOk ln cl q Gd n ps → TabOk ln cl q Gd n' ps
  | .none => .none
  | .some g a b c => .some g (h _ a) b c
end Mine

-- part Lm
namespace Mine
open PySem PySem.Sre PySem.Spec PySem.Calls PyProof.Rows PySem.W PySem.Builtin.Re PySem.Builtin PySem.Builtin.Str
set_option maxRecDepth 100000
set_option linter.unusedSimpArgs false
set_option linter.unusedVariables false
set_option Elab.async false
section
variable {M : Model} {A : Around} {E : Value → Shared → Prop} {s : Shared} {h₀ : Heap} {L a c P : Addr} {m mg mb : Str → Option Value} {cn : Str} {cs : Scope} {ccd : Value} {cl : List (Str × Addr)} {news rest : List (Addr × Obj)} {g : Obj → List (Addr × Obj)} {Gd : Addr → Prop}
  {p : Program} {loose : List Str} {mean : ExcName → Option Value} {params : Arguments} {body : Expr} {scope : Scope} {ps : Array Value} {pos : Pos} {clos : List (Str × Addr)} {ln col : Nat}
theorem lam_T {Q : Value → Shared → Prop} (F : Fr h₀ L s.heap m) (N : News h₀ L s.heap news) (T : Top p loose mean mg mb h₀) (C : CodeHd h₀ c P) (hcd : ccd = .ref c) (U : UpdF P (tabObj ps) news g)
    (hT : TabOk ln col ((envX cn cs L a ccd cl).qual ++ ("<lambda>" : String)) Gd rest ps) (hGd : ∀ c', (∀ x ∈ news, x.1 < c') → Gd c') (hsub : ∀ x ∈ rest, x ∈ news) (hl : pos.line = ln) (hc : pos.col = col)
    (hcl : closureFor scope (envX cn cs L a ccd cl) = pure clos) (hdef : defaultsOf params (envX cn cs L a ccd cl) = ([], []))
    (h : ∀ f c' oc vs t ctv ps' h' tk, Fr h₀ L h' m → News h₀ L h' ((f, kla_obj "<lambda>" ((envX cn cs L a ccd cl).qual ++ ("<lambda>" : String)) params body scope clos ((mg "__name__").getD .none) c' ctv) :: (c', oc) :: g (tabObj ps')) →
      oc.data = .fields vs → vs[1]? = some (.str ((envX cn cs L a ccd cl).qual ++ ("<lambda>" : String)) t) → TabOk ln col ((envX cn cs L a ccd cl).qual ++ ("<lambda>" : String)) Gd ((c', oc) :: rest) ps' → ((c', oc) ∈ rest ∨ ∀ x ∈ news, x.1 < c') → (∀ x ∈ news, x.1 < f) → c' < f → Q (.ref f) { s with heap := h', toks := tk }) :
    wpAny M A (eval (.Lambda params body scope pos) (envX cn cs L a ccd cl)) Q E s := by
  subst hl hc
  refine kla_eval hdef ?_
  cases hT with
  | none =>
    refine kla_nest F N T C hcd U trivial rfl hcl fun f c' oc vs t ctv h' tk F' N' hd hv l1 l2 => ?_
    refine h f c' oc vs t ctv _ h' tk F' N' hd hv ?_ (.inr l1) (fun x hx => Nat.lt_trans (l1 x hx) l2) l2
    have e : (#[] : Array Value) ++ #[rawInt (pos.line : Int), rawInt (pos.col : Int), .ref c'] = #[rawInt (pos.line : Int), rawInt (pos.col : Int), .ref c'] := by simp
    rw [e]
    exact .some (hGd _ l1) (.head _) hd hv
  | @some c' oc vs t hg0 hm hd hv =>
    obtain ⟨pre, post, rfl, hg, h1, h2⟩ := U.split
    refine kla_hit (c' := c') F N T C hcd (List.mem_append_right _ (.head _)) ?_ ?_ hcl fun f ctv h' tk F' N' l1 => ?_
    · exact trivial
    · simp [codeAmong, rawInt]
    · refine h f c' oc vs t ctv _ h' tk F' (fun x hx => ?_) hd hv (.some hg0 (.head _) hd hv) (.inl hm) l1 (l1 _ (hsub _ hm))
      rcases List.mem_cons.mp hx with rfl | hx
      · exact N' _ (.head _)
      · rcases List.mem_cons.mp hx with rfl | hx
        · exact N' _ (.tail _ (hsub _ hm))
        · rw [hg] at hx; exact N' _ (.tail _ hx)
end
end Mine

-- part Kp
namespace Mine
open PySem PySem.Sre PySem.Spec PySem.Calls PyProof.Rows PySem.W PySem.Builtin.Re PySem.Builtin PySem.Builtin.Str
set_option maxRecDepth 100000
set_option linter.unusedSimpArgs false
set_option linter.unusedVariables false
set_option Elab.async false
section
variable {h : Heap} {P : Params}
theorem pats (X : (hd.heap_39 P).In h) : PatAt h 75 jtokC 0 ∧ PatAt h 80 jescC 1 ∧ PatAt h 36 junkC 0 ∧ PatAt h 48 tokC 1 ∧ PatAt h 53 quoC 1 ∧ PatAt h 58 valC 1 ∧ PatAt h 63 escC 1 := by
  w_top off
  have : (PySem.Challenge.rw_re0071_01, hd.heap_39) = (PySem.Challenge.rw_re0071_01, hd.heap_39) := by
    k_fill
    rfl
  clear this
  refine ⟨?_, ?_, ?_, ?_, ?_, ?_, ?_⟩
  · exact ⟨_, _, 74, _, _, _, _, _, X 75 _ (by k_is), rfl, rfl, rfl, rfl, rfl, rfl, X 74 _ (by k_is), rfl, by decide +kernel⟩
  · exact ⟨_, _, 79, _, _, _, _, _, X 80 _ (by k_is), rfl, rfl, rfl, rfl, rfl, rfl, X 79 _ (by k_is), rfl, by decide +kernel⟩
  · exact ⟨_, _, 35, _, _, _, _, _, X 36 _ (by k_is), rfl, rfl, rfl, rfl, rfl, rfl, X 35 _ (by k_is), rfl, by decide +kernel⟩
  · exact ⟨_, _, 47, _, _, _, _, _, X 48 _ (by k_is), rfl, rfl, rfl, rfl, rfl, rfl, X 47 _ (by k_is), rfl, by decide +kernel⟩
  · exact ⟨_, _, 52, _, _, _, _, _, X 53 _ (by k_is), rfl, rfl, rfl, rfl, rfl, rfl, X 52 _ (by k_is), rfl, by decide +kernel⟩
  · exact ⟨_, _, 57, _, _, _, _, _, X 58 _ (by k_is), rfl, rfl, rfl, rfl, rfl, rfl, X 57 _ (by k_is), rfl, by decide +kernel⟩
  · exact ⟨_, _, 62, _, _, _, _, _, X 63 _ (by k_is), rfl, rfl, rfl, rfl, rfl, rfl, X 62 _ (by k_is), rfl, by decide +kernel⟩
end
end Mine

-- part Ha
namespace Mine
open PySem PySem.Spec PySem.Calls PyProof.Rows PySem.W PySem.Builtin
set_option maxRecDepth 100000
set_option linter.unusedSimpArgs false
set_option linter.unusedVariables false
set_option Elab.async false

theorem lk_list_getitem : typeLookup (.type "list") "__getitem__" = pure (some (.builtin "list.__getitem__")) := by rw [typeLookup_type, builtinLookup_eq_fast]; kernel_rfl
theorem lk_md_set : typeLookup (.type "method_descriptor") "__set__" = pure none := by rw [typeLookup_type, builtinLookup_eq_fast]; kernel_rfl
theorem lk_md_del : typeLookup (.type "method_descriptor") "__delete__" = pure none := by rw [typeLookup_type, builtinLookup_eq_fast]; kernel_rfl
theorem cut_lg : ".".intercalate ("list.__getitem__".cutAt '.').dropLast = "list" := by first | decide +kernel | kernel_rfl
theorem is_lst : isSubtype (.type "list") (.type "list") = pure true := by rw [isSubtype_type]; kernel_rfl
theorem sl_md_get : Slot "method_descriptor" "__get__" "method_descriptor.__get__" :=
  .of (owner := "method_descriptor") (n := "__get__") (by rw [typeLookup_type, builtinLookup_eq_fast]; kernel_rfl) (by decide +kernel) (by decide +kernel) (by decide +kernel)
    (by first | exact .inl (by decide +kernel) | exact .inr (by decide +kernel)) (by rw [isSubtype_type]; kernel_rfl)
theorem en_md_get : entryFor table "method_descriptor.__get__" = some Builtin.«method_descriptor.__get__» := entryFor_of_tree (by kernel_rfl)
theorem ar_md_get (a b c : Value) : argsOk "method_descriptor.__get__" ⟨[a, b, c], []⟩ := by unfold argsOk; kernel_rfl
theorem ty_lg : typeOf (.builtin "list.__getitem__") = pure (.type "method_descriptor") := by show builtinType _ = _; rw [builtinType_eq_fast]; kernel_rfl
theorem we_lg : withoutEnding? "list.__getitem__" "#data" = none := by decide +kernel
theorem lk_ga : typeLookup (.type "list") "__getattribute__" = pure (some (.builtin "list.__getattribute__")) := F.slot_list_getattribute.lookup
theorem is_mod : isSubtype (.type "list") (.type "module") = pure false := by rw [isSubtype_type]; kernel_rfl
section
variable {prog : Program} {w : World} {A : Around} {E : Value → Shared → Prop} {s : Shared} {a : Addr} {o : Obj} {xs : Array Value} {k : Nat}
set_option maxHeartbeats 4000000 in
theorem hasattr_body {t : Tok} {Q : Fin → Shared → Prop} (hx : s.heap.get? a = some o) (hc : o.cls = .type "list") (hdat : o.data = .seq xs k) (hd : o.dict = none)
    (h : ∀ h' tk, (∀ b ob, s.heap.get? b = some ob → h'.get? b = some ob) → Q (.done (.ret (.bool true))) { s with heap := h', toks := tk }) :
    wpAny (model prog w) A (Builtin.«hasattr» ⟨[.ref a, .str "__getitem__" t], []⟩) Q E s := by
  obtain ⟨hp, g, d, tk, os⟩ := s
  obtain ⟨c, dct, dat, sl⟩ := o
  simp only at hc hdat hd
  subst hc hdat hd
  have hT : ∀ tk', (⟨hp, g, d, tk', os⟩ : Shared).TypeIs (.ref a) "list" := fun _ => ⟨_, hx, rfl⟩
  have f1 := lk_list_getitem
  have f2 := lk_ga
  have f3 := is_mod
  have f4 := F.slot_list_getattribute.bind (.ref a)
  have f5 := am_list_getattr_none
  have f6 := ty_lg
  have f7 := sl_md_get.lookup
  have f8 := lk_md_set
  have f9 := lk_md_del
  unfold Builtin.«hasattr»
  refine wpAny_bind (wpAny_of_eq (a := [.ref a, .str "__getitem__" t]) (by first | rfl | kernel_rfl) ?_)
  dsimp only
  refine wpAny_bind (wpAny_of_eq (a := ()) (by first | rfl | kernel_rfl) ?_)
  rw [if_neg (by intro q; cases q)]
  refine wpAny_bind (wpAny_typeOf (hT _) ?_)
  dsimp only
  refine wpAny_bind (m := asStr? (.str "__getitem__" t)) (wpAny_pure ?_)
  dsimp only
  refine wpAny_bind (wpAny_of_eq lk_list_getitem ?_)
  dsimp only
  refine wpAny_bind (wpAny_of_eq lk_ga ?_)
  rw [we_lg]
  rw [if_neg (by decide)]
  refine wpAny_bind ?_
  repeat (any_goals ((fail_if_success (with_reducible show wpAny _ _ (getAttrBy? _ _) _ _ _)); first | with_reducible assumption | with_reducible exact hT _ | (first | with_reducible (first | refine wpAny_pure ?_ | refine wpAny_bind ?_ | refine wpAny_holding ?_ | refine wpAny_rule ?_ | refine wpAny_alloc' ?_ | refine wpAny_attempt ?_ | refine wpAny_of_eq (by assumption) ?_ | refine wpAny_typeOf (by assumption) ?_ | refine wpAny_specialOf_val (by assumption) (by assumption) ?_ | refine wpAny_specialOf (by assumption) (by assumption) ?_ | refine wpAny_call ?_ | refine wpAny_loadPart' (by assumption) ?_) | ((with_reducible refine wpAny_ite_false ?_ ?_); focus (rfl; done)) | ((with_reducible refine wpAny_ite_true ?_ ?_); focus (rfl; done)) | ((with_reducible refine wpAny_ite_false ?_ ?_); focus (simp [*]; done)) | ((with_reducible refine wpAny_ite_true ?_ ?_); focus (simp [*]; done)) | wp_delta | with_reducible_and_instances refine wpAny_pure ?_ | with_reducible_and_instances refine wpAny_bind ?_)))
  unfold getAttrBy? getAttrBy
  repeat (any_goals (first | with_reducible assumption | with_reducible exact hT _ | (first | with_reducible (first | refine wpAny_pure ?_ | refine wpAny_bind ?_ | refine wpAny_holding ?_ | refine wpAny_rule ?_ | refine wpAny_alloc' ?_ | refine wpAny_attempt ?_ | refine wpAny_of_eq (by assumption) ?_ | refine wpAny_typeOf (by assumption) ?_ | refine wpAny_specialOf_val (by assumption) (by assumption) ?_ | refine wpAny_specialOf (by assumption) (by assumption) ?_ | refine wpAny_call ?_ | refine wpAny_loadPart' (by assumption) ?_) | ((with_reducible refine wpAny_ite_false ?_ ?_); focus (rfl; done)) | ((with_reducible refine wpAny_ite_true ?_ ?_); focus (rfl; done)) | ((with_reducible refine wpAny_ite_false ?_ ?_); focus (simp [*]; done)) | ((with_reducible refine wpAny_ite_true ?_ ?_); focus (simp [*]; done)) | wp_delta | with_reducible_and_instances refine wpAny_pure ?_ | with_reducible_and_instances refine wpAny_bind ?_)))
  refine codeAny_call_builtin F.slot_list_getattribute.plain am_entry_list_getattribute (F.slot_list_getattribute.check _ _ _ _ _ _ _ _ (hT _) (F.args_list_getattribute_2 _ _) ?_)
  unfold Builtin.«object.__getattribute__»
  repeat (any_goals (first | with_reducible assumption | with_reducible exact hT _ | (first | with_reducible (first | refine wpAny_pure ?_ | refine wpAny_bind ?_ | refine wpAny_holding ?_ | refine wpAny_rule ?_ | refine wpAny_alloc' ?_ | refine wpAny_attempt ?_ | refine wpAny_of_eq (by assumption) ?_ | refine wpAny_typeOf (by assumption) ?_ | refine wpAny_specialOf_val (by assumption) (by assumption) ?_ | refine wpAny_specialOf (by assumption) (by assumption) ?_ | refine wpAny_call ?_ | refine wpAny_loadPart' (by assumption) ?_) | ((with_reducible refine wpAny_ite_false ?_ ?_); focus (rfl; done)) | ((with_reducible refine wpAny_ite_true ?_ ?_); focus (rfl; done)) | ((with_reducible refine wpAny_ite_false ?_ ?_); focus (simp [*]; done)) | ((with_reducible refine wpAny_ite_true ?_ ?_); focus (simp [*]; done)) | wp_delta | with_reducible_and_instances refine wpAny_pure ?_ | with_reducible_and_instances refine wpAny_bind ?_)))
  refine codeAny_call_builtin sl_md_get.plain en_md_get (sl_md_get.check _ _ _ _ _ _ _ _ ty_lg (ar_md_get _ _ _) ?_)
  unfold Builtin.«method_descriptor.__get__»
  repeat (any_goals (first | with_reducible assumption | with_reducible exact hT _ | (first | with_reducible (first | refine wpAny_pure ?_ | refine wpAny_bind ?_ | refine wpAny_holding ?_ | refine wpAny_rule ?_ | refine wpAny_alloc' ?_ | refine wpAny_attempt ?_ | refine wpAny_of_eq (by assumption) ?_ | refine wpAny_typeOf (by assumption) ?_ | refine wpAny_specialOf_val (by assumption) (by assumption) ?_ | refine wpAny_specialOf (by assumption) (by assumption) ?_ | refine wpAny_call ?_ | refine wpAny_loadPart' (by assumption) ?_) | ((with_reducible refine wpAny_ite_false ?_ ?_); focus (rfl; done)) | ((with_reducible refine wpAny_ite_true ?_ ?_); focus (rfl; done)) | ((with_reducible refine wpAny_ite_false ?_ ?_); focus (simp [*]; done)) | ((with_reducible refine wpAny_ite_true ?_ ?_); focus (simp [*]; done)) | wp_delta | with_reducible_and_instances refine wpAny_pure ?_ | with_reducible_and_instances refine wpAny_bind ?_)))
  simp only [cut_lg]
  have f10 := is_lst
  repeat (any_goals (first | with_reducible assumption | with_reducible exact hT _ | (first | with_reducible (first | refine wpAny_pure ?_ | refine wpAny_bind ?_ | refine wpAny_holding ?_ | refine wpAny_rule ?_ | refine wpAny_alloc' ?_ | refine wpAny_attempt ?_ | refine wpAny_of_eq (by assumption) ?_ | refine wpAny_typeOf (by assumption) ?_ | refine wpAny_specialOf_val (by assumption) (by assumption) ?_ | refine wpAny_specialOf (by assumption) (by assumption) ?_ | refine wpAny_call ?_ | refine wpAny_loadPart' (by assumption) ?_) | ((with_reducible refine wpAny_ite_false ?_ ?_); focus (rfl; done)) | ((with_reducible refine wpAny_ite_true ?_ ?_); focus (rfl; done)) | ((with_reducible refine wpAny_ite_false ?_ ?_); focus (simp [*]; done)) | ((with_reducible refine wpAny_ite_true ?_ ?_); focus (simp [*]; done)) | wp_delta | with_reducible_and_instances refine wpAny_pure ?_ | with_reducible_and_instances refine wpAny_bind ?_)))
  exact h _ _ (fun b ob e => Heap.get?_push_of_some _ e)
theorem kd_hasattr : builtinKind "hasattr" = none := by decide +kernel
theorem pl_hasattr : plainId "hasattr" = true := by decide +kernel
theorem en_hasattr : entryFor table "hasattr" = some Builtin.«hasattr» := entryFor_of_tree (by kernel_rfl)
theorem ar_hasattr (a b : Value) : argsOk "hasattr" ⟨[a, b], []⟩ := by unfold argsOk; kernel_rfl
end
section
variable {prog : Program} {w : World} {A : Around} {E : Value → Shared → Prop} {s : Shared} {h₀ : Heap} {L : Addr} {m : Str → Option Value} {news : List (Addr × Obj)}
theorem hasattr_K {a : Addr} {xs : Array Value} {k : Nat} {t : Tok} {Q : Value → Shared → Prop} (F : Fr h₀ L s.heap m) (N : News h₀ L s.heap news) (hm : (a, ({ cls := .type "list", data := .seq xs k } : Obj)) ∈ news)
    (h : ∀ h' tk', Fr h₀ L h' m → News h₀ L h' news → Q (.bool true) { s with heap := h', toks := tk' }) :
    wpAny (model prog w) A (call (.builtin "hasattr") [.ref a, .str "__getitem__" t]) Q E s :=
  call_function_entry kd_hasattr pl_hasattr en_hasattr (ar_hasattr _ _) (hasattr_body (N _ hm).1 rfl rfl rfl fun h' tk hk => ⟨_, rfl, h h' tk (F.keeps hk) (N.grown hk)⟩)
end
end Mine

-- part Ci
namespace Mine
open PySem PySem.Spec PySem.Calls PyProof.Rows PySem.W PySem.Builtin PySem.Builtin.Str
set_option maxRecDepth 100000
set_option linter.unusedSimpArgs false
set_option linter.unusedVariables false
set_option Elab.async false
section
variable {prog : Program} {w : World} {A : Around} {E : Value → Shared → Prop} {s : Shared} {h₀ : Heap} {L : Addr} {m : Str → Option Value} {env : Env}
/-- a comprehension's turns by an invariant -/
theorem comp_inv {elt : Expr} {x : Str} {scope : Scope} {cl : List (Str × Addr)} {S : List (Addr × Obj) → Prop} {P : Nat → Value → Prop} {Fin : List Value → List (Addr × Obj) → Prop} {n : Nat} (J : Nat → List Value → List (Addr × Obj) → Prop)
    (turn : ∀ i ys news v I oI C oC D m₂ h tk (E' : Value → Shared → Prop), i < n → J i ys news → P i v → LCg.NsObj oC m₂ → m₂ x = some v → Fr h₀ L h m → News h₀ L h ((I, oI) :: (C, oC) :: (D, LCg.lst ys) :: news) → LCg.Off3 I C D news → ((@Ne Nat I C) ∧ (@Ne Nat I D) ∧ (@Ne Nat C D)) →
      wpAny (model prog w) A (eval elt (compEnvC scope cl C env)) (LCg.CompEnd h₀ L m { s with heap := h, toks := tk } I oI C oC D (LCg.lst ys) S (fun y news' => J (i + 1) (ys ++ [y]) news')) E' { s with heap := h, toks := tk })
    (fin : ∀ ys news, J n ys news → Fin ys news) : ∀ k i ys news, i + k = n → J i ys news → LCg.CompRest prog w A h₀ L m env elt x scope cl s S P Fin k i ys news
  | 0, i, ys, news, hk, hj => by
    have : i = n := by omega
    subst this
    exact LCg.CompRest.zero (fin ys news hj)
  | k + 1, i, ys, news, hk, hj => by
    refine LCg.CompRest.succ fun v I oI C oC D m₂ h tk E' hv hC hx F N off ne => ?_
    refine wpAny_mono (turn i ys news v I oI C oC D m₂ h tk E' (by omega) hj hv hC hx F N off ne) (fun y s₂ h₂ => ?_) fun _ _ e => e
    obtain ⟨h', tk', news', e, F', N', off', hS, hJ⟩ := h₂
    exact ⟨h', tk', news', e, F', N', off', hS, comp_inv J turn fin k (i + 1) (ys ++ [y]) news' (by omega) hJ⟩
end
end Mine

namespace Mine
open PySem PySem.Sre PySem.Spec PySem.Calls PyProof.Rows PySem.W PySem.Builtin.Re PySem.Builtin PySem.Builtin.Str
set_option maxRecDepth 100000
set_option linter.unusedSimpArgs false
set_option linter.unusedVariables false
set_option Elab.async false
-- lines of the walk that several parts share
local macro_rules | `(tactic| k_all) => `(tactic| assumption)
local macro_rules | `(tactic| k_mem) => `(tactic| assumption)
section
local macro_rules | `(tactic| walk_at "getMethod ref") => `(tactic| (k_here; (with_reducible show wpAny _ _ (getMethod (Value.ref _) (PySem.Str.ofString "group") _) _ _ _); k_dflt (refine' gm_group ?k1 ?_; (case k1 => exact mtAt_of (by k_asm) (by k_mem) (by k_mem)); k_whole)))
local macro_rules | `(tactic| walk_at "truthy ref") => `(tactic| (k_here; k_dflt (refine' truthy_match ?k1 ?_; (case k1 => exact mtAt_of (by k_asm) (by k_mem) (by k_mem)); k_whole)))
local macro_rules | `(tactic| walk_at "call ref") => `(tactic| (k_here; kn_here; k_dflt (refine wpAny_call ?_; (refine' kla_code ?k1 ?k2 ?k3 ?k4 ?k5 ?kA ?kF ?kK ?k6 ?k7 ?k8 ?k9 ?kB ?_ ?c2 ?c3 ?c4 ?c5; (case kA | kF | kK => exact rfl); (case k1 | k2 => k_asm); (case k3 | k4 | k5 => k_asm); (case k6 => k_mem); (case k7 => exact codeRec_news (by k_asm) (by k_mem) (by assumption) (by assumption)); (case k8 => ktr_room); (case k9 => exact rfl); (case c5 => decide); (case kB => exact locs rfl); (case c2 | c3 | c4 => exact rfl); k_whole; intro g' L' h' FG' F' N' B' X' T'; (try dsimp only); (try k_lift B'); (try k_fold)))))
-- part Kj
section
abbrev jq : Str := (Str.ofString "join_header_words" ++ (".<locals>." : String)) ++ ("<lambda>" : String)

theorem jfm_no (x : Str) (hx : x ∈ jset) : ((forMatch jtokC x.cps 0 0 x.cps.size true false).runFor 40).outcome = some .failed := by
  have h : fdOf ((forMatch jtokC x.cps 0 0 x.cps.size true false).runFor 40) = some ⟨false, 0, 0, [], 0, 0⟩ := by
    simp only [jset, List.mem_cons, List.not_mem_nil, or_false] at hx
    rcases hx with rfl | rfl | rfl | rfl <;> decide +kernel
  unfold fdOf at h
  split at h
  · simp at h
  · assumption
  · cases h
theorem jset_b (x : Str) (hx : x ∈ jset) : ¬ x = ("b" : Str) := by
  simp only [jset, List.mem_cons, List.not_mem_nil, or_false] at hx
  rcases hx with rfl | rfl | rfl | rfl <;> decide +kernel
theorem jset_size (x : Str) (hx : x ∈ jset) : x.cps.size ≤ 4 ∧ x.length ≤ 4 ∧ (jesc x).length ≤ 8 := by
  simp only [jset, List.mem_cons, List.not_mem_nil, or_false] at hx
  rcases hx with rfl | rfl | rfl | rfl <;> decide +kernel

section
variable {prog : Program} {w : World} {A : Around} {E : Value → Shared → Prop} {s : Shared} {h₀ : Heap} {L : Addr} {m : Str → Option Value} {news : List (Addr × Obj)} {P : Params}
theorem pat_in {p : Addr} {c : Array Nat} {g : Nat} (F : Fr h₀ L s.heap m) (h : PatAt h₀ p c g) : PatAt s.heap p c g := h.keeps F.keep
theorem fm_no_K {x : Str} {t : Tok} {Q : Value → Shared → Prop} (hx : x ∈ jset) (F : Fr h₀ L s.heap m) (X : (hd.heap_39 P).In h₀) (h : Q .none s) : wpAny (model prog w) A (call (.builtin "re.Pattern.fullmatch") [.ref 75, .str x t]) Q E s :=
  fullmatch_no (pat_in F (pats X).1) (by have := jset_size x hx; omega) (by decide) (jfm_no x hx) h
theorem fm_yes_K {t : Tok} {Q : Value → Shared → Prop} (F : Fr h₀ L s.heap m) (X : (hd.heap_39 P).In h₀) (N : News h₀ L s.heap news)
    (h : ∀ mt tp h', Fr h₀ L h' m → News h₀ L h' ((mt, mtObj (.str "b" t) (.ref 75) 1 (-1) tp) :: (tp, spObj [(0 : Int), 1]) :: news) → (∀ p ∈ news, p.1 < tp) → tp < mt → Q (.ref mt) { s with heap := h' }) :
    wpAny (model prog w) A (call (.builtin "re.Pattern.fullmatch") [.ref 75, .str "b" t]) Q E s := by
  refine fullmatch_yes0 (k := 40) (a := 0) (b := 1) (l := []) (lm := -1) (li := -1) (pat_in F (pats X).1) (by decide +kernel) (by decide) (by decide +kernel) ?_
  have F₂ := F.push (spObj [(0 : Int), 1])
  have N₂ := N.push F (spObj [(0 : Int), 1])
  have F₃ := F₂.push (mtObj (.str "b" t) (.ref 75) 1 (-1) s.heap.objs.size)
  have N₃ := N₂.push F₂ (mtObj (.str "b" t) (.ref 75) 1 (-1) s.heap.objs.size)
  rw [Heap.size_push] at N₃
  exact h _ _ _ F₃ N₃ (fun p hp => Heap.lt_size (N p hp).1) (Nat.lt_succ_self _)
end

section
variable {prog : Program} {w : World} {A : Around} {E : Value → Shared → Prop} {s : Shared} {h₀ : Heap} {L : Addr} {m : Str → Option Value} {news : List (Addr × Obj)} {P : Params}
theorem app_any {pl : Addr} {ys : List Value} {v : Value} {e : Nat} {Q : Value → Shared → Prop} (keep : List (Addr × Obj)) (F : Fr h₀ L s.heap m) (N : News h₀ L s.heap news) (hm : (pl, lstO ys e) ∈ news) (hsz : ys.length ≤ 2 ^ 20) (hk : ∀ p ∈ keep, p ∈ news ∧ p.1 ≠ pl)
    (h : ∀ h', Fr h₀ L h' m → News h₀ L h' ((pl, lstO (ys ++ [v]) (e + 1)) :: keep) → Q .none { s with heap := h' }) : wpAny (model prog w) A (call (.builtin "list.append") [.ref pl, v]) Q E s := by
  have ho := (N _ hm).1
  have hl : s.heap.IsList pl ys.toArray := ⟨_, ho, rfl, e, rfl⟩
  refine wpAny_call_entry PySem.F.slot_list_append hl.typeIs PySem.F.entry_list_append ?_ (PySem.F.args_list_append_2 _ _)
  show wpAny _ _ (updateSeq pl (·.push v) >>= fun _ => ret .none) _ _ s
  refine wpAny_bind (seqPush_K (news := keep) F (fun p hp => ?_) (fun q hq => (hk q hq).2) hsz fun h' F' N' => wpAny_pure ⟨.none, rfl, h h' F' N'⟩)
  rcases List.mem_cons.mp hp with rfl | hp
  · exact N _ hm
  · exact N _ (hk p hp).1
theorem group_K {mt tp : Addr} {x : Str} {t tk : Tok} {pat : Value} {lim : Nat} {li a b : Int} {i j : Nat} {Q : Value → Shared → Prop} (N : News h₀ L s.heap news) (h1 : (mt, mtObj (.str x t) pat lim li tp) ∈ news) (h2 : (tp, spObj [a, b, (i : Int), (j : Int)]) ∈ news) (hx : x.length ≤ 2 ^ 20)
    (h : (Str.mk (x.cps.extract i j)).length ≤ x.length → Q (.str ⟨x.cps.extract i j⟩ s.toks) { s with toks := s.toks + 1 }) : wpAny (model prog w) A (call (.builtin "re.Match.group") [.ref mt, .int 1 tk]) Q E s :=
  group1_rule (mtAt_of N h1 h2) hx (h (by show (x.cps.extract i j).size ≤ x.cps.size; rw [Array.size_extract]; omega))
end
theorem news_cons {h₀ h : Heap} {L : Addr} {news : List (Addr × Obj)} {p : Addr × Obj} (N : News h₀ L h news) (hp : p ∈ news) : News h₀ L h (p :: news) := fun q hq => by
  rcases List.mem_cons.mp hq with rfl | hq
  · exact N _ hp
  · exact N _ hq

/-- what is new lies apart from what was there -/
def Nw (news rest : List (Addr × Obj)) : Prop := ∀ q ∈ rest, q ∈ news ∨ ∀ p ∈ news, p.1 ≠ q.1
theorem Nw.refl (news : List (Addr × Obj)) : Nw news news := fun _ h => .inl h
theorem Nw.trans {a b c : List (Addr × Obj)} (h1 : Nw a b) (hs : ∀ q ∈ a, q ∈ b) (h2 : Nw b c) : Nw a c := fun q hq => by
  rcases h2 q hq with h | h
  · exact h1 q h
  · exact .inr fun p hp => h p (hs p hp)
theorem Nw.add {a b : List (Addr × Obj)} {p : Addr × Obj} (h1 : Nw a b) (h : p ∈ b ∨ ∀ q ∈ a, q.1 ≠ p.1) : Nw a (p :: b) := fun q hq => by
  rcases List.mem_cons.mp hq with rfl | hq
  · rcases h with h | h
    · exact h1 _ h
    · exact .inr h
  · exact h1 q hq
/-- join's outer loop -/
def JOut (Gd : Addr → Prop) (news : List (Addr × Obj)) (is : List Nat) (i : Nat) (m₁ : Str → Option Value) (news₁ : List (Addr × Obj)) : Prop :=
  ∃ H hs eH ps' rest, m₁ "headers" = some (.ref H) ∧ news₁ = (H, lstO (strValues hs) eH) :: (82, tabObj ps') :: rest ∧ hs.map (·.1) = (is.take i).map txt ∧ TabOk 57 50 jq Gd rest ps' ∧ (∀ q ∈ news, q ∈ rest) ∧ (∀ q ∈ rest, q.1 ≠ 82) ∧ (∀ q ∈ rest, q.1 ≠ H) ∧ H ≠ 82 ∧ Nw news rest
/-- join's inner loop -/
def JIn (Gd : Addr → Prop) (rest : List (Addr × Obj)) (pw : List KV) (H : Addr) (hs : List (Str × Tok)) (eH : Nat) (I : Addr) (oI : Obj) (j : Nat) (m₂ : Str → Option Value) (news₂ : List (Addr × Obj)) : Prop :=
  ∃ As as eA ps2 rest2, m₂ "attr" = some (.ref As) ∧ m₂ "headers" = some (.ref H) ∧ news₂ = (As, lstO (strValues as) eA) :: (I, oI) :: (H, lstO (strValues hs) eH) :: (82, tabObj ps2) :: rest2 ∧ as.map (·.1) = (pw.take j).map kvText ∧ TabOk 57 50 jq Gd rest2 ps2 ∧ (∀ q ∈ rest, q ∈ rest2) ∧
      (∀ q ∈ rest2, q.1 ≠ 82 ∧ q.1 ≠ H ∧ q.1 ≠ I ∧ q.1 ≠ As) ∧ As ≠ 82 ∧ As ≠ H ∧ As ≠ I ∧ Nw rest rest2
theorem take_snoc {α β : Type} (f : α → β) {l : List α} {j : Nat} {x : α} (h : l[j]? = some x) : (l.take (j + 1)).map f = (l.take j).map f ++ [f x] := by
  rw [List.take_add_one, h]; simp
theorem tend2 {Gd : Addr → Prop} {g h : Heap} {L I2 r As I H : Addr} {m' : Str → Option Value} {s₁ : Shared} {tk : Nat} {oI2 lo oI : Obj} {as hs : List (Str × Tok)} {eA eH j : Nat} {y : Str} {ty : Tok} {ps3 : Array Value} {rest rest3 : List (Addr × Obj)} {pw : List KV} {kv : KV}
    (F : Fr g L h m') (N : News g L h ((As, lstO (strValues as ++ [.str y ty]) (eA + 1)) :: (I2, oI2) :: (I, oI) :: (H, lstO (strValues hs) eH) :: (82, tabObj ps3) :: rest3))
    (h1 : m' "attr" = some (.ref As)) (h2 : m' "headers" = some (.ref H)) (has : as.map (·.1) = (pw.take j).map kvText) (hkv : pw[j]? = some kv) (hy : y = kvText kv) (hT : TabOk 57 50 jq Gd rest3 ps3) (hsub : ∀ q ∈ rest, q ∈ rest3) (hr : (r, lo) ∈ rest)
    (hr3 : ∀ q ∈ rest3, (q.1 ≠ 82 ∧ q.1 ≠ H ∧ q.1 ≠ I ∧ q.1 ≠ As) ∧ q.1 ≠ I2) (a1 : As ≠ 82) (a2 : As ≠ H) (a3 : As ≠ I) (a4 : As ≠ I2) (a5 : I ≠ I2) (a6 : H ≠ I2) (a7 : 82 ≠ I2) (hN : Nw rest rest3) :
    TEnd g L (JIn Gd rest pw H hs eH I oI (j + 1)) I2 oI2 r lo s₁ { s₁ with heap := h, toks := tk } := by
  have e : strValues as ++ [Value.str y ty] = strValues (as ++ [(y, ty)]) := by simp [strValues]
  rw [e] at N
  refine ⟨h, tk, m', (As, lstO (strValues (as ++ [(y, ty)])) (eA + 1)) :: (I, oI) :: (H, lstO (strValues hs) eH) :: (82, tabObj ps3) :: rest3, rfl, F, fun q hq => ?_, ?_, ?_, As, as ++ [(y, ty)], eA + 1, ps3, rest3, h1, h2, rfl, ?_, hT, hsub, fun q hq => (hr3 q hq).1, a1, a2, a3, hN⟩
  · rcases List.mem_cons.mp hq with rfl | hq
    · exact N _ (.tail _ (.head _))
    · rcases List.mem_cons.mp hq with rfl | hq
      · exact N _ (.head _)
      · exact N _ (.tail _ (.tail _ hq))
  · intro q hq
    simp only [List.mem_cons] at hq
    rcases hq with rfl | rfl | rfl | rfl | hq
    · exact a4
    · exact a5
    · exact a6
    · exact a7
    · exact (hr3 q hq).2
  · exact .tail _ (.tail _ (.tail _ (.tail _ (hsub _ hr))))
  · rw [List.map_append, has, take_snoc kvText hkv, hy]; rfl
theorem keep5 {all rest3 : List (Addr × Obj)} {I2 I H As : Addr} {oI2 oI oH ot : Obj} (m1 : (I2, oI2) ∈ all) (m2 : (I, oI) ∈ all) (m3 : (H, oH) ∈ all) (m4 : (82, ot) ∈ all) (m5 : ∀ q ∈ rest3, q ∈ all) (a1 : As ≠ 82) (a2 : As ≠ H) (a3 : As ≠ I) (a4 : As ≠ I2) (hr3 : ∀ q ∈ rest3, q.1 ≠ As) :
    ∀ p ∈ (I2, oI2) :: (I, oI) :: (H, oH) :: (82, ot) :: rest3, p ∈ all ∧ p.1 ≠ As := by
  intro q hq
  simp only [List.mem_cons] at hq
  rcases hq with rfl | rfl | rfl | rfl | hq
  · exact ⟨m1, a4.symm⟩
  · exact ⟨m2, a3.symm⟩
  · exact ⟨m3, a2.symm⟩
  · exact ⟨m4, a1.symm⟩
  · exact ⟨m5 q hq, hr3 q hq⟩
theorem fold_len {sep : Nat} {b : Nat} : ∀ (l : List Str) (acc : Nat), (∀ x ∈ l, x.length ≤ b) → l.foldl (fun n x => n + x.length + sep) acc ≤ acc + l.length * (b + sep)
  | [], acc, _ => by simp
  | x :: l, acc, h => by
    have h1 := h x (.head _)
    have h2 := fold_len (sep := sep) l (acc + x.length + sep) fun y hy => h y (.tail _ hy)
    rw [List.foldl_cons, List.length_cons, Nat.add_mul]
    omega
theorem arr_fold {sep : Nat} {l : List Str} {b n : Nat} (h : ∀ x ∈ l, x.length ≤ b) (hn : l.length ≤ n) (hz : n * (b + sep) ≤ 2 ^ 20) : l.toArray.foldl (fun n x => n + x.length + sep) 0 ≤ 2 ^ 20 := by
  rw [List.foldl_toArray]
  have h1 := fold_len (sep := sep) l 0 h
  have h2 : l.length * (b + sep) ≤ n * (b + sep) := Nat.mul_le_mul_right _ hn
  omega
theorem glue_fold {sep : Array Nat} {b : Nat} : ∀ (l : List Str) (acc : Array Nat), (∀ x ∈ l, x.length ≤ b) → (l.foldl (fun acc p => acc ++ sep ++ p.cps) acc).size ≤ acc.size + l.length * (b + sep.size)
  | [], acc, _ => by simp
  | x :: l, acc, h => by
    have h1 : x.cps.size ≤ b := h x (.head _)
    have h2 := glue_fold (sep := sep) l (acc ++ sep ++ x.cps) fun y hy => h y (.tail _ hy)
    rw [List.foldl_cons, List.length_cons, Nat.add_mul]
    simp only [Array.size_append] at h2
    omega
theorem glued_len {sep : Str} {l : List Str} {b n : Nat} (h : ∀ x ∈ l, x.length ≤ b) (hn : l.length ≤ n) (hz : n * (b + sep.length) ≤ 2 ^ 20) : (glued sep l).length ≤ 2 ^ 20 := by
  cases l with
  | nil => show (0 : Nat) ≤ _; omega
  | cons x l =>
    have h1 := glue_fold (sep := sep.cps) l x.cps fun y hy => h y (.tail _ hy)
    have h0 : x.cps.size ≤ b := h x (.head _)
    have h2 : (l.length + 1) * (b + sep.cps.size) ≤ n * (b + sep.cps.size) := Nat.mul_le_mul_right _ hn
    have h3 : n * (b + sep.cps.size) ≤ 2 ^ 20 := hz
    rw [Nat.add_mul] at h2
    show (l.foldl (fun acc p => acc ++ sep.cps ++ p.cps) x.cps).size ≤ _
    omega
theorem kv_len (i : Nat) : ∀ x ∈ (wd i).map kvText, x.length ≤ 12 := by
  unfold wd; split <;> decide +kernel
theorem txt_len (i : Nat) : (txt i).length ≤ 12 := by
  unfold txt; split <;> decide +kernel
theorem wd_len (i : Nat) : 1 ≤ (wd i).length ∧ (wd i).length ≤ 2 := by
  unfold wd; split <;> decide
theorem tend1 {Gd : Addr → Prop} {g h : Heap} {L I l H : Addr} {m' : Str → Option Value} {s₁ : Shared} {tk : Nat} {oI lo : Obj} {hs : List (Str × Tok)} {eH i : Nat} {y : Str} {ty : Tok} {ps3 : Array Value} {news rest3 : List (Addr × Obj)} {is : List Nat} {ix : Nat}
    (F : Fr g L h m') (N : News g L h ((H, lstO (strValues hs ++ [.str y ty]) (eH + 1)) :: (I, oI) :: (82, tabObj ps3) :: rest3))
    (h2 : m' "headers" = some (.ref H)) (hhs : hs.map (·.1) = (is.take i).map txt) (hix : is[i]? = some ix) (hy : y = txt ix) (hT : TabOk 57 50 jq Gd rest3 ps3) (hsub : ∀ q ∈ news, q ∈ rest3) (hl : (l, lo) ∈ news)
    (hr3 : ∀ q ∈ rest3, (q.1 ≠ 82 ∧ q.1 ≠ H) ∧ q.1 ≠ I) (a1 : H ≠ 82) (a6 : H ≠ I) (a7 : 82 ≠ I) (hN : Nw news rest3) :
    TEnd g L (JOut Gd news is (i + 1)) I oI l lo s₁ { s₁ with heap := h, toks := tk } := by
  have e : strValues hs ++ [Value.str y ty] = strValues (hs ++ [(y, ty)]) := by simp [strValues]
  rw [e] at N
  refine ⟨h, tk, m', (H, lstO (strValues (hs ++ [(y, ty)])) (eH + 1)) :: (82, tabObj ps3) :: rest3, rfl, F, fun q hq => ?_, ?_, ?_, H, hs ++ [(y, ty)], eH + 1, ps3, rest3, h2, rfl, ?_, hT, hsub, fun q hq => (hr3 q hq).1.1, fun q hq => (hr3 q hq).1.2, a1, hN⟩
  · rcases List.mem_cons.mp hq with rfl | hq
    · exact N _ (.tail _ (.head _))
    · rcases List.mem_cons.mp hq with rfl | hq
      · exact N _ (.head _)
      · exact N _ (.tail _ (.tail _ hq))
  · intro q hq
    simp only [List.mem_cons] at hq
    rcases hq with rfl | rfl | hq
    · exact a6
    · exact a7
    · exact (hr3 q hq).2
  · exact .tail _ (.tail _ (hsub _ hl))
  · rw [List.map_append, hhs, take_snoc txt hix, hy]; rfl
theorem allLt_mem {d : Nat} {l : List (Addr × Obj)} (h : AllLt d l) : ∀ p ∈ l, p.1 < d := by
  induction l with
  | nil => intro p hp; cases hp
  | cons a r ih =>
    intro p hp
    rcases List.mem_cons.mp hp with e | hp
    · subst e; exact h.1
    · exact ih h.2 p hp
theorem map_len {α β : Type} {f : α → β} {l : List α} {k : List β} (h : l.map f = k) : l.length = k.length := by rw [← h, List.length_map]
theorem str_len0 {y : Str} (h : ((y.length : Nat) : Int) = 0) : Str.ofString "" = y := by
  obtain ⟨⟨l⟩⟩ := y
  have : l = [] := List.eq_nil_of_length_eq_zero (by have : ((l.length : Nat) : Int) = 0 := h; omega)
  subst this
  rfl

set_option maxHeartbeats 4000000 in
/-- '"%s"' % z -/
theorem quote_meets (t u : Tok) (z : Str) (hz : z.length ≤ 1000000) :
    Meets («str.__mod__» ⟨[.str ⟨#[34, 37, 115, 34]⟩ t, .str z u], []⟩) (fun _ R s => ∀ t' k, R (.ok (.ret (.str ((Str.ofString "\"" ++ z) ++ Str.ofString "\"") t'))) { s with toks := k }) := by
  apply KPc.meets_of
  intro _ _ _ _ _ _ _
  rw [KPc.entry_is_s]
  unfold Builtin.Str.percentFormat
  refine wpAny_bind (wpAny_isInstance (typeIs_str _ _ _) F.sub_str_tuple ?_)
  refine wpAny_bind (wpAny_of_eq (a := some _) rfl ?_)
  refine wpAny_bind (KPc.wp_fills_str ?_)
  intro _
  kpc_if
  refine wpAny_bind (wpAny_pure ?_)
  refine wpAny_bind ?_
  rw [KPc.range_list]
  refine KPc.start ?_
  intro _ _
  refine KPc.turn ?_
  kpc_check
  (repeat kpc_if)
  refine wpAny_pure ?_
  refine KPc.after_add0 (by kpc_g) (by kpc_text) (by kpc_obj) ?_
  intro _ _
  refine KPc.turn ?_
  kpc_check
  (repeat kpc_if)
  refine wpAny_bind ?_
  refine wpAny_holding ?_
  (repeat kpc_if)
  kpc_conv
  refine wpAny_pure ?_
  refine wpAny_pure ?_
  refine KPc.after_str (by kpc_g) (by kpc_len) (by kpc_obj) ?_
  intro _ _
  refine KPc.turn ?_
  kpc_check
  (repeat kpc_if)
  refine wpAny_pure ?_
  refine KPc.after_add (by kpc_g) (by kpc_text) (by kpc_obj) ?_
  intro _ _
  refine KPc.turn ?_
  kpc_check
  (repeat kpc_if)
  kpc_close

local macro_rules | `(tactic| walk_at "binaryOp Mod str str") => `(tactic| (k_here; (with_reducible show wpAny _ _ (binaryOp Operator.Mod (Value.str _ _) (Value.str _ _)) _ _ _); (refine' KPc.mod_str ?kpcF ?kpcl ?kpcm ?_; (case kpcF => kpc_eq); (case kpcl => kpc_size); (case kpcm => (intro z hz; exact quote_meets _ _ z hz))); intro _ _))

local macro_rules | `(tactic| walk_at "getMethod ref") => `(tactic| (k_here; (with_reducible show wpAny _ _ (getMethod (Value.ref _) (PySem.Str.ofString "fullmatch") _) _ _ _); k_dflt (refine' gm_fullmatch ?k1 ?_; (case k1 => exact pat_in (by k_asm) (pats (by k_asm)).1); k_whole)))
local macro_rules | `(tactic| walk_at "getMethod ref") => `(tactic| (k_here; (with_reducible show wpAny _ _ (getMethod (Value.ref _) (PySem.Str.ofString "sub") _) _ _ _); k_dflt (refine' gm_sub ?k1 ?_; (case k1 => exact pat_in (by k_asm) (pats (by k_asm)).2.1); k_whole)))
local macro_rules | `(tactic| walk_at "call builtin:re.Pattern.fullmatch") => `(tactic| (k_here; k_dflt (refine' fm_no_K ?k1 ?k2 ?k3 ?_; (case k1 => assumption); (case k2 | k3 => k_asm); k_whole)))
local macro_rules | `(tactic| walk_at "call builtin:re.Pattern.fullmatch") => `(tactic| (k_here; k_dflt (refine' fm_yes_K ?k1 ?k2 ?k3 ?_; (case k1 | k2 | k3 => k_asm); k_whole); intro mt' tp' h' F' N' l1 l2; (try k_lt l1); (try k_lt2 l2); (try k_sweep)))
local macro_rules | `(tactic| walk_at "call builtin:re.Match.group") => `(tactic| (k_here; k_dflt (refine' group_K ?k1 ?k2 ?k3 ?k4 ?_; (case k1 => k_asm); (case k2 | k3 => k_mem); (case k4 => first | omega | (refine Nat.le_trans (jset_size _ (by assumption)).2.1 (by decide))); k_whole); intro gl'))
local macro_rules | `(tactic| walk_at "call builtin:re.Pattern.sub") => `(tactic| (k_here; k_dflt (refine' sub_one (jsub _ (by assumption)) ?z1 ?z2 ?k1 ?k2 ?k3 ?k4 ?k5 ?_ ?_; (case z1 => (refine Nat.le_trans (jset_size _ (by assumption)).1 (by decide))); (case z2 => (refine Nat.le_trans (jset_size _ (by assumption)).2.2 (by decide))); (case k1 => exact (pats (by k_asm)).2.1); (case k2 | k3 => k_asm); (case k4 => k_mem); (case k5 => exact rfl)); rotate_left; (intro tk' h' tk2' F' N'; (try k_sweep))))

set_option maxHeartbeats 4000000 in
theorem join_spec (w : World) (p : Program) (loose : List Str) (mean : ExcName → Option Value) (mg mb : Str → Option Value)
  (dp un : Nat) (gd : Option (List Code)) (cn : Str) (cs : Scope) (a : Addr) (ccd : Value) (cl : List (Str × Addr)) (outer : List Env) (A₀ : Around) (base h₀ : Heap) (L : Addr) (m : Str → Option Value) (news : List (Addr × Obj)) (s : Shared) 
    (l : Addr) (rs : List Value) (e : Nat) (is : List Nat) (ps : Array Value) (Gd : Addr → Prop) (Q E : Value → Shared → Prop)
    (B : Below A₀ base outer h₀) (F : Fr h₀ L s.heap m) (X : (hd.heap_39 w.params).In h₀) (N : News h₀ L s.heap ((82, tabObj ps) :: news)) (T : Top p loose mean mg mb h₀) (C : CodeHd base 86 82) (hk : cs.kind = .function) 
    (hl : (l, lstO rs e) ∈ news) (hW : WordsIn news rs (is.map wd)) (hT : TabOk 57 50 jq Gd news ps) (hGd : ∀ c', (∀ p ∈ news, p.1 < c') → Gd c') (hne : ∀ q ∈ news, q.1 ≠ 82) (hlen : is.length ≤ 63) (hdp : dp + 1 < recursionLimit) (hu : un + 16 < cLine)
    (hret : ∀ tk h' tk' ps' news', Fr h₀ L h' m → News h₀ L h' ((82, tabObj ps') :: news') → (∀ q ∈ news, q ∈ news') → TabOk 57 50 jq Gd news' ps' → (∀ q ∈ news', q.1 ≠ 82) → Nw news news' → Q (.str (glued ", " (is.map txt)) tk) { s with heap := h', toks := tk' }) :
    wpAny (model prg w) (ktrTop dp un gd cn cs L a ccd cl outer) (call (.ref 87) [.ref l]) Q E s := by
  w_top off
  have : (PySem.Challenge.rw_re0071_01, hd.heap_39) = (PySem.Challenge.rw_re0071_01, hd.heap_39) := by
    k_fill
    rfl
  clear this
  refine wpAny_call ?_
  k_dflt cell_enter
  (repeat' ((fail_if_success first | (with_reducible show wpAny _ _ (exec (PySem.Stmt.For _ _ _ _ _) _) _ _ _) | (with_reducible show wpAny _ _ (call (Value.builtin "list.append") _) _ _ _) | (with_reducible show wpAny _ _ (PySem.eval (PySem.Expr.Lambda _ _ _ _) _) _ _ _) | (with_reducible show wpAny _ _ (call (Value.builtin "str.join") _) _ _ _)); first | (k_unfold; (try dsimp only)) | walk1 | (dsimp only; walk1)))
  refine For_turns (by assumption) ?_
  walk1
  refine list_inv (ax := l) (lo := lstO rs e) (vs := rs) (n := e) (JOut Gd news is) rfl (by k_asm) (by k_asm) ?hm rfl rfl ?hj ?turn ?done
  case hm => exact List.mem_cons_of_mem _ (List.mem_cons_of_mem _ hl)
  case hj =>
    rename (@LT.lt Nat _ _ _ ∧ AllLt _ _) => l1
    exact ⟨_, [], 0, ps, news, rfl, rfl, rfl, hT, fun _ h => h, hne, fun q hq => Nat.ne_of_lt (allLt_mem l1.2 q hq), Nat.ne_of_gt l1.1, Nw.refl _⟩
  case turn =>
    intro I i v m₁ news₁ h tk oI hI hv hJ hoff F₁ N₁
    refine Classical.byContradiction fun hgo9 => ?_
    obtain ⟨H, hs, eH, ps', rest, hm, rfl, hhs, hT', hsub, h82, hH, hH82, hNw⟩ := hJ
    rw [map_one hm] at F₁
    obtain ⟨pw, hpw, r, ts, er, rfl, hr, hP⟩ := (hW.mono hsub).at hv
    obtain ⟨ix, hix, rfl⟩ : ∃ ix, is[i]? = some ix ∧ wd ix = pw := by simpa using hpw
    refine hgo9 ?_
    clear hgo9
    (repeat' ((fail_if_success first | (with_reducible show wpAny _ _ (exec (PySem.Stmt.For _ _ _ _ _) _) _ _ _) | (with_reducible show wpAny _ _ (call (Value.builtin "list.append") _) _ _ _) | (with_reducible show wpAny _ _ (PySem.eval (PySem.Expr.Lambda _ _ _ _) _) _ _ _) | (with_reducible show wpAny _ _ (call (Value.builtin "str.join") _) _ _ _)); first | (k_unfold; (try dsimp only)) | walk1 | (dsimp only; walk1)))
    refine For_turns (by assumption) ?_
    walk1
    rename_i At hAt hF2 hlt2 hF3 hN3
    refine list_inv (ax := r) (lo := lstO ts er) (vs := ts) (n := er) (JIn Gd rest (wd ix) H hs eH I oI) rfl (by k_asm) (by k_asm) ?hm2 rfl rfl ?hj2 ?turn2 ?done2
    case hm2 => exact List.mem_cons_of_mem _ (List.mem_cons_of_mem _ (List.mem_cons_of_mem _ (List.mem_cons_of_mem _ hr)))
    case hj2 =>
      rename (@LT.lt Nat _ _ _ ∧ @LT.lt Nat _ _ _ ∧ @LT.lt Nat _ _ _ ∧ AllLt _ _) => l2
      exact ⟨_, [], 0, ps', rest, rfl, rfl, rfl, rfl, hT', fun _ h => h, fun q hq => ⟨h82 q hq, hH q hq, hoff _ (.tail _ (.tail _ hq)), Nat.ne_of_lt (allLt_mem l2.2.2.2 q hq)⟩, Nat.ne_of_gt l2.2.2.1, Nat.ne_of_gt l2.2.1, Nat.ne_of_gt l2.1, Nw.refl _⟩
    case turn2 =>
      intro I2 j v2 m₂ news₂ h2 tk2 oI2 hI2 hv2 hJ2 hoff2 F₂ N₂
      refine Classical.byContradiction fun hgo9 => ?_
      obtain ⟨As, as, eA, ps2, rest2, hm2, hm3, rfl, has, hT2, hsub2, hr2, hA1, hA2, hA3, hNw2⟩ := hJ2
      obtain ⟨kv, hkv, t, tkk, u, rfl, ht, hval⟩ := (hP.mono hsub2).at hv2
      refine hgo9 ?_
      clear hgo9
      have hok := wd_ok ix _ (List.mem_of_getElem? hkv)
      obtain ⟨k, vo⟩ := kv
      dsimp only at ht hval
      have hk1 : k.length ≤ 1 := by rcases hok.1 with h | h <;> (have h : k = _ := h; subst h; decide)
      have q1 : @Ne Nat As 82 := hA1
      have q2 : @Ne Nat As H := hA2
      have q3 : @Ne Nat As I := hA3
      have q4 : @Ne Nat As I2 := hoff2 _ (.head _)
      have q5 : @Ne Nat I I2 := hoff2 _ (.tail _ (.head _))
      have q6 : @Ne Nat H I2 := hoff2 _ (.tail _ (.tail _ (.head _)))
      have q7 : @Ne Nat 82 I2 := hoff2 _ (.tail _ (.tail _ (.tail _ (.head _))))
      have q8 : @Ne Nat H 82 := hH82
      have q9 : @Ne Nat H I := hoff _ (.head _)
      have q10 : @Ne Nat 82 I := hoff _ (.tail _ (.head _))
      have r1 : ∀ q ∈ rest2, @Ne Nat q.1 82 := fun q hq => (hr2 q hq).1
      have r2 : ∀ q ∈ rest2, @Ne Nat q.1 As := fun q hq => (hr2 q hq).2.2.2
      have t1 : @Ne Nat t 82 := r1 _ ht
      have t2 : @Ne Nat t As := r2 _ ht
      have hr3 : ∀ q ∈ rest2, (q.1 ≠ 82 ∧ q.1 ≠ H ∧ q.1 ≠ I ∧ q.1 ≠ As) ∧ q.1 ≠ I2 := fun q hq => ⟨hr2 q hq, hoff2 _ (.tail _ (.tail _ (.tail _ (.tail _ hq))))⟩
      have hasl : (strValues as).length ≤ 2 ^ 20 := by
        have h1 : (as.map (·.1)).length ≤ (wd ix).length := by rw [has, List.length_map, List.length_take]; omega
        have h2 : (wd ix).length ≤ 2 := by unfold wd; split <;> decide
        simp only [List.length_map] at h1
        simp only [strValues, List.length_map]; omega
      clear hT'
      rw [map_one hm2] at F₂
      rw [map_one (x := "headers") (v := .ref H) (m := fun y => if y = Str.ofString "attr" then some (Value.ref As) else m₂ y) (by rw [if_neg (by decide)]; exact hm3)] at F₂
      replace N₂ := news_cons N₂ (List.mem_cons_of_mem _ (List.mem_cons_of_mem _ (List.mem_cons_of_mem _ (List.mem_cons_of_mem _ (List.mem_cons_of_mem _ ht)))))
      cases vo with
      | none =>
        have hu : u = .none := hval
        subst hu
        clear hret hT hW hP
        (repeat' ((fail_if_success first | (with_reducible show wpAny _ _ (exec (PySem.Stmt.For _ _ _ _ _) _) _ _ _) | (with_reducible show wpAny _ _ (call (Value.builtin "list.append") _) _ _ _) | (with_reducible show wpAny _ _ (PySem.eval (PySem.Expr.Lambda _ _ _ _) _) _ _ _) | (with_reducible show wpAny _ _ (call (Value.builtin "str.join") _) _ _ _)); first | (k_unfold; (try dsimp only)) | walk1 | (dsimp only; walk1)))
        refine app_any ((I2, oI2) :: (I, oI) :: (H, lstO (strValues hs) eH) :: (82, tabObj ps2) :: rest2) (by k_asm) (by k_asm) (by k_mem) hasl (keep5 (by k_mem) (by k_mem) (by k_mem) (by k_mem) (by intro q9 hq9; repeat (first | exact hq9 | apply List.mem_cons_of_mem)) hA1 hA2 hA3 q4 (fun q hq => (hr3 q hq).1.2.2.2)) ?_
        · intro h9 F9 N9
          (repeat' ((fail_if_success first | (with_reducible show wpAny _ _ (exec (PySem.Stmt.For _ _ _ _ _) _) _ _ _) | (with_reducible show wpAny _ _ (call (Value.builtin "list.append") _) _ _ _) | (with_reducible show wpAny _ _ (PySem.eval (PySem.Expr.Lambda _ _ _ _) _) _ _ _) | (with_reducible show wpAny _ _ (call (Value.builtin "str.join") _) _ _ _)); first | (k_unfold; (try dsimp only)) | walk1 | (dsimp only; walk1)))
          exact tend2 F9 N9 rfl rfl has hkv rfl hT2 hsub2 hr hr3 hA1 hA2 hA3 q4 q5 q6 q7 hNw2
      | some x =>
        obtain ⟨tx, hu⟩ := hval
        subst hu
        clear hret hT hW hP
        rcases hok.2 x rfl with hx | hx
        · subst hx
          (repeat' ((fail_if_success first | (with_reducible show wpAny _ _ (exec (PySem.Stmt.For _ _ _ _ _) _) _ _ _) | (with_reducible show wpAny _ _ (call (Value.builtin "list.append") _) _ _ _) | (with_reducible show wpAny _ _ (PySem.eval (PySem.Expr.Lambda _ _ _ _) _) _ _ _) | (with_reducible show wpAny _ _ (call (Value.builtin "str.join") _) _ _ _)); first | (k_unfold; (try dsimp only)) | walk1 | (dsimp only; walk1)))
          refine app_any ((I2, oI2) :: (I, oI) :: (H, lstO (strValues hs) eH) :: (82, tabObj ps2) :: rest2) (by k_asm) (by k_asm) (by k_mem) hasl (keep5 (by k_mem) (by k_mem) (by k_mem) (by k_mem) (by intro q9 hq9; repeat (first | exact hq9 | apply List.mem_cons_of_mem)) hA1 hA2 hA3 q4 (fun q hq => (hr3 q hq).1.2.2.2)) ?_
          intro h9 F9 N9
          (repeat' ((fail_if_success first | (with_reducible show wpAny _ _ (exec (PySem.Stmt.For _ _ _ _ _) _) _ _ _) | (with_reducible show wpAny _ _ (call (Value.builtin "list.append") _) _ _ _) | (with_reducible show wpAny _ _ (PySem.eval (PySem.Expr.Lambda _ _ _ _) _) _ _ _) | (with_reducible show wpAny _ _ (call (Value.builtin "str.join") _) _ _ _)); first | (k_unfold; (try dsimp only)) | walk1 | (dsimp only; walk1)))
          exact tend2 F9 N9 rfl rfl has hkv (by rw [Str.empty_append]; rfl) hT2 hsub2 hr hr3 hA1 hA2 hA3 q4 q5 q6 q7 hNw2
        · have z1 := (jset_size x hx).2.1
          have z2 := (jset_size x hx).2.2
          (repeat' ((fail_if_success first | (with_reducible show wpAny _ _ (exec (PySem.Stmt.For _ _ _ _ _) _) _ _ _) | (with_reducible show wpAny _ _ (call (Value.builtin "list.append") _) _ _ _) | (with_reducible show wpAny _ _ (PySem.eval (PySem.Expr.Lambda _ _ _ _) _) _ _ _) | (with_reducible show wpAny _ _ (call (Value.builtin "str.join") _) _ _ _)); first | (k_unfold; (try dsimp only)) | walk1 | (dsimp only; walk1)))
          refine' lam_T (cl := []) ?FF ?NN ?TT ?CC rfl ?U hT2 ?gd ?sub rfl rfl rfl rfl ?_
          case FF => k_asm
          case NN => k_asm
          case TT => k_asm
          case CC => kn_code
          case U => k_updF
          case gd => intro c9 h9; exact hGd c9 fun q9 hq9 => h9 q9 (by have hq9 := hsub2 q9 (hsub q9 hq9); repeat (first | exact hq9 | apply List.mem_cons_of_mem))
          case sub => intro q9 hq9; repeat (first | exact hq9 | apply List.mem_cons_of_mem)
          intro f c' oc vs t9 ctv ps3 h3 tk3 F3 N3 hd3 hv3 hT3 hc3 hlf hcf
          dsimp only at N3
          have hr4 : ∀ q ∈ (c', oc) :: rest2, (q.1 ≠ 82 ∧ q.1 ≠ H ∧ q.1 ≠ I ∧ q.1 ≠ As) ∧ q.1 ≠ I2 := by
            intro q hq
            rcases List.mem_cons.mp hq with rfl | hq
            · rcases hc3 with hc3 | hc3
              · exact hr3 _ hc3
              · have k1 := hc3 _ (.tail _ (.tail _ (.head _)))
                have k2 := hc3 _ (.tail _ (.head _))
                have k3 := hc3 _ (.tail _ (.tail _ (.tail _ (.head _))))
                have k4 := hc3 _ (.tail _ (.tail _ (.tail _ (.tail _ (.head _)))))
                have k5 := hc3 _ (.tail _ (.tail _ (.tail _ (.tail _ (.tail _ (.head _))))))
                exact ⟨⟨Nat.ne_of_gt k5, Nat.ne_of_gt k4, Nat.ne_of_gt k3, Nat.ne_of_gt k1⟩, Nat.ne_of_gt k2⟩
            · exact hr3 q hq
          (repeat' ((fail_if_success first | (with_reducible show wpAny _ _ (exec (PySem.Stmt.For _ _ _ _ _) _) _ _ _) | (with_reducible show wpAny _ _ (call (Value.builtin "list.append") _) _ _ _) | (with_reducible show wpAny _ _ (PySem.eval (PySem.Expr.Lambda _ _ _ _) _) _ _ _) | (with_reducible show wpAny _ _ (call (Value.builtin "str.join") _) _ _ _)); first | (k_unfold; (try dsimp only)) | walk1 | (dsimp only; walk1)))
          all_goals first | (((rename (∀ (ty : Tok) (h₂ : Heap) (tk₂ : Nat), Fr _ _ h₂ _ → News _ _ h₂ _ → _) => ret; first | exact ret _ _ _ (by k_asm) (cb_drop (by assumption) (by intro q hq; exact .tail _ (.tail _ hq))) | (rename (((Str.length _ : Nat) : Int) = 0) => hz; rw [str_len0 hz]; exact ret _ _ _ (by k_asm) (cb_drop (by assumption) (by intro q hq; exact .tail _ (.tail _ hq)))))); done) | skip
          refine app_any ((I2, oI2) :: (I, oI) :: (H, lstO (strValues hs) eH) :: (82, tabObj ps3) :: (c', oc) :: rest2) (by k_asm) (by k_asm) (by k_mem) hasl (keep5 (by k_mem) (by k_mem) (by k_mem) (by k_mem) (by intro q9 hq9; (rcases List.mem_cons.mp hq9 with rfl | hq9); (k_mem); repeat (first | exact hq9 | apply List.mem_cons_of_mem)) hA1 hA2 hA3 q4 (fun q hq => (hr4 q hq).1.2.2.2)) ?_
          intro h9 F9 N9
          (repeat' ((fail_if_success first | (with_reducible show wpAny _ _ (exec (PySem.Stmt.For _ _ _ _ _) _) _ _ _) | (with_reducible show wpAny _ _ (call (Value.builtin "list.append") _) _ _ _) | (with_reducible show wpAny _ _ (PySem.eval (PySem.Expr.Lambda _ _ _ _) _) _ _ _) | (with_reducible show wpAny _ _ (call (Value.builtin "str.join") _) _ _ _)); first | (k_unfold; (try dsimp only)) | walk1 | (dsimp only; walk1)))
          exact tend2 F9 N9 rfl rfl has hkv (by rw [Str.empty_append]; exact (if_neg (jset_b x hx)).symm) hT3 (fun q hq => .tail _ (hsub2 q hq)) hr hr4 hA1 hA2 hA3 q4 q5 q6 q7 (hNw2.add (hc3.imp id fun h q hq => Nat.ne_of_lt (h q (.tail _ (.tail _ (.tail _ (.tail _ (.tail _ (.tail _ (hsub2 q hq))))))))))
    case done2 =>
      intro m₂ news₂ h2 tk2 hJ2 F₂ N₂
      refine Classical.byContradiction fun hgo9 => ?_
      obtain ⟨As, as, eA, ps2, rest2, hm2, hm3, rfl, has, hT2, hsub2, hr2, hA1, hA2, hA3, hNw2⟩ := hJ2
      rw [map_one hm2] at F₂
      rw [map_one (x := "headers") (v := .ref H) (m := fun y => if y = Str.ofString "attr" then some (Value.ref As) else m₂ y) (by rw [if_neg (by decide)]; exact hm3)] at F₂
      refine hgo9 ?_
      clear hgo9
      have hal : as.length = (wd ix).length := by
        have := map_len has
        rw [List.length_map, List.length_take, hP.len] at this
        omega
      have has' : as.map (·.1) = (wd ix).map kvText := by rw [has, hP.len, List.take_length]
      (repeat' ((fail_if_success first | (with_reducible show wpAny _ _ (truthy (Value.ref _)) _ _ _) | (with_reducible show wpAny _ _ (exec (PySem.Stmt.For _ _ _ _ _) _) _ _ _) | (with_reducible show wpAny _ _ (call (Value.builtin "list.append") _) _ _ _) | (with_reducible show wpAny _ _ (PySem.eval (PySem.Expr.Lambda _ _ _ _) _) _ _ _) | (with_reducible show wpAny _ _ (call (Value.builtin "str.join") _) _ _ _)); first | (k_unfold; (try dsimp only)) | walk1 | (dsimp only; walk1)))
      refine wpAny_truthy_list ⟨_, (N₂ _ (.head _)).1, rfl, eA, rfl⟩ ?_ ?_
      · simp only [strValues, List.size_toArray, List.length_map]
        have := wd_len ix
        omega
      have hemp : (!((strValues as).toArray.isEmpty)) = true := by
        have := wd_len ix
        cases as with
        | nil => simp at hal; omega
        | cons _ _ => rfl
      rw [hemp]
      clear hret hT hW
      (repeat' ((fail_if_success first | (with_reducible show wpAny _ _ (exec (PySem.Stmt.For _ _ _ _ _) _) _ _ _) | (with_reducible show wpAny _ _ (call (Value.builtin "list.append") _) _ _ _) | (with_reducible show wpAny _ _ (PySem.eval (PySem.Expr.Lambda _ _ _ _) _) _ _ _) | (with_reducible show wpAny _ _ (call (Value.builtin "str.join") _) _ _ _)); first | (k_unfold; (try dsimp only)) | walk1 | (dsimp only; walk1)))
      refine join_rule (l := as) ⟨_, (N₂ _ (.head _)).1, rfl, eA, rfl⟩ ?_ ?_ ?_
      · rw [has']; exact arr_fold (n := 2) (kv_len ix) (by rw [List.length_map]; exact (wd_len ix).2) (by decide)
      · rw [has']; exact glued_len (n := 2) (kv_len ix) (by rw [List.length_map]; exact (wd_len ix).2) (by decide)
      intro tk9 n9
      rw [has', txt_is]
      (repeat' ((fail_if_success first | (with_reducible show wpAny _ _ (exec (PySem.Stmt.For _ _ _ _ _) _) _ _ _) | (with_reducible show wpAny _ _ (call (Value.builtin "list.append") _) _ _ _) | (with_reducible show wpAny _ _ (PySem.eval (PySem.Expr.Lambda _ _ _ _) _) _ _ _) | (with_reducible show wpAny _ _ (call (Value.builtin "str.join") _) _ _ _)); first | (k_unfold; (try dsimp only)) | walk1 | (dsimp only; walk1)))
      have hhl : (strValues hs).length ≤ 2 ^ 20 := by
        have := map_len hhs
        rw [List.length_map, List.length_take] at this
        simp only [strValues, List.length_map]; omega
      refine app_any ((I, oI) :: (82, tabObj ps2) :: rest2) (by k_asm) (by k_asm) (by k_mem) hhl ?_ ?_
      · intro q hq
        simp only [List.mem_cons] at hq
        rcases hq with rfl | rfl | hq
        · exact ⟨.tail _ (.head _), fun q => hoff _ (.head _) q.symm⟩
        · exact ⟨.tail _ (.tail _ (.tail _ (.head _))), hH82.symm⟩
        · exact ⟨.tail _ (.tail _ (.tail _ (.tail _ hq))), (hr2 q hq).2.1⟩
      intro h9 F9 N9
      (repeat' ((fail_if_success first | (with_reducible show wpAny _ _ (exec (PySem.Stmt.For _ _ _ _ _) _) _ _ _) | (with_reducible show wpAny _ _ (call (Value.builtin "list.append") _) _ _ _) | (with_reducible show wpAny _ _ (PySem.eval (PySem.Expr.Lambda _ _ _ _) _) _ _ _) | (with_reducible show wpAny _ _ (call (Value.builtin "str.join") _) _ _ _)); first | (k_unfold; (try dsimp only)) | walk1 | (dsimp only; walk1)))
      exact tend1 F9 N9 rfl hhs hix rfl hT2 (fun q hq => hsub2 q (hsub q hq)) hl (fun q hq => ⟨⟨(hr2 q hq).1, (hr2 q hq).2.1⟩, (hr2 q hq).2.2.1⟩) hH82 (hoff _ (.head _)) (hoff _ (.tail _ (.head _))) (hNw.trans hsub hNw2)
  case done =>
    intro m₁ news₁ h tk hJ F₁ N₁
    refine Classical.byContradiction fun hgo9 => ?_
    obtain ⟨H, hs, eH, ps', rest, hm, rfl, hhs, hT', hsub, h82, hH, hH82, hNw⟩ := hJ
    rw [map_one hm] at F₁
    refine hgo9 ?_
    clear hgo9
    have hil : rs.length = is.length := by have := hW.len; rw [List.length_map] at this; exact this
    have hhs' : hs.map (·.1) = is.map txt := by rw [hhs, hil, List.take_length]
    have hb : ∀ x ∈ is.map txt, x.length ≤ 12 := by
      intro x hx
      obtain ⟨i, _, rfl⟩ := List.mem_map.mp hx
      exact txt_len i
    clear hW hT
    (repeat' ((fail_if_success first | (with_reducible show wpAny _ _ (exec (PySem.Stmt.For _ _ _ _ _) _) _ _ _) | (with_reducible show wpAny _ _ (call (Value.builtin "list.append") _) _ _ _) | (with_reducible show wpAny _ _ (PySem.eval (PySem.Expr.Lambda _ _ _ _) _) _ _ _) | (with_reducible show wpAny _ _ (call (Value.builtin "str.join") _) _ _ _)); first | (k_unfold; (try dsimp only)) | walk1 | (dsimp only; walk1)))
    refine join_rule (l := hs) ⟨_, (N₁ _ (.head _)).1, rfl, eH, rfl⟩ ?_ ?_ ?_
    · rw [hhs']; exact arr_fold (n := 63) hb (by rw [List.length_map]; exact hlen) (by decide)
    · rw [hhs']; exact glued_len (n := 63) hb (by rw [List.length_map]; exact hlen) (by decide)
    intro tk9 n9
    rw [hhs']
    (repeat' ((fail_if_success first | (with_reducible show wpAny _ _ (exec (PySem.Stmt.For _ _ _ _ _) _) _ _ _) | (with_reducible show wpAny _ _ (call (Value.builtin "list.append") _) _ _ _) | (with_reducible show wpAny _ _ (PySem.eval (PySem.Expr.Lambda _ _ _ _) _) _ _ _) | (with_reducible show wpAny _ _ (call (Value.builtin "str.join") _) _ _ _)); first | (k_unfold; (try dsimp only)) | walk1 | (dsimp only; walk1)))
    exact hret _ _ _ ps' rest (by k_asm) (cb_drop (by assumption) (by intro q hq; exact .tail _ hq)) hsub hT' h82 hNw
end

-- part Go
section
def part (x : Str) (i j : Nat) : Str := ⟨x.cps.extract i j⟩
abbrev sr (c : Array Nat) (x : Str) : M := forSearch c x.cps 1 0 x.cps.size false
abbrev hit (b i j : Nat) (li : Int) : Fd := ⟨true, 0, b, [some i, some j], 1, li⟩
/-- how split goes on from a text with the pairs so far: what it adds to its result -/
inductive Go : Nat → Str → List KV → List (List KV) → Prop
  | fin {pr : List KV} : Go 0 ⟨#[]⟩ pr (if pr.isEmpty then [] else [pr])
  | quo {n b i j b2 i2 j2 : Nat} {li li2 : Int} {x : Str} {pr : List KV} {R : List (List KV)} {v : Str} : x.length ≠ 0 → finds (sr tokC x) (hit b i j li) → i ≤ j → b ≤ x.length → finds (sr quoC (cut x b)) (hit b2 i2 j2 li2) → i2 ≤ j2 → b2 ≤ (cut x b).length →
      (part (cut x b) i2 j2, v) ∈ sset → Go n (cut (cut x b) b2) (pr ++ [(part x i j, some v)]) R → Go (n + 1) x pr R
  | val {n b i j b2 i2 j2 : Nat} {li li2 : Int} {x : Str} {pr : List KV} {R : List (List KV)} : x.length ≠ 0 → finds (sr tokC x) (hit b i j li) → i ≤ j → b ≤ x.length → fails (sr quoC (cut x b)) → finds (sr valC (cut x b)) (hit b2 i2 j2 li2) → i2 ≤ j2 → b2 ≤ (cut x b).length →
      Go n (cut (cut x b) b2) (pr ++ [(part x i j, some (Txt.rstrip (part (cut x b) i2 j2)))]) R → Go (n + 1) x pr R
  | non {n b i j : Nat} {li : Int} {x : Str} {pr : List KV} {R : List (List KV)} : x.length ≠ 0 → finds (sr tokC x) (hit b i j li) → i ≤ j → b ≤ x.length → fails (sr quoC (cut x b)) → fails (sr valC (cut x b)) →
      Go n (cut x b) (pr ++ [(part x i j, none)]) R → Go (n + 1) x pr R
  | com {n : Nat} {x : Str} {pr : List KV} {R : List (List KV)} : x.length ≠ 0 → fails (sr tokC x) → Txt.lstrip x = x → Txt.startswith x (Str.ofString ",") = true → pr ≠ [] → Go n (cut x 1) [] R → Go (n + 1) x pr (pr :: R)
  | jnk {n b : Nat} {li : Int} {x : Str} {pr : List KV} {R : List (List KV)} : x.length ≠ 0 → fails (sr tokC x) → Txt.lstrip x = x → Txt.startswith x (Str.ofString ",") = false → finds (forSearch junkC x.cps 0 0 x.cps.size false) ⟨true, 0, b, [], -1, li⟩ → b ≠ 0 → b < x.length →
      fails (forSearch junkC x.cps 0 b x.cps.size false) → Go n (cut x b) pr R → Go (n + 1) x pr R
end

-- part Gx
section
abbrev st (l : List Nat) : Str := ⟨l.toArray⟩
theorem st_len (l : List Nat) : (st l).length = l.length := rfl
theorem forSearch_lim (c t : Array Nat) (g p n : Nat) (b : Bool) : (forSearch c t g p n b).lim = n := by
  unfold forSearch; dsimp only; split
  · rfl
  · exact congrArg (fun x => x.2.2.1) (attemptFrom_key _ p true)
theorem forSearch_code (c t : Array Nat) (g p n : Nat) (b : Bool) : (forSearch c t g p n b).code = c := by
  unfold forSearch; dsimp only; split
  · rfl
  · exact congrArg (fun x => x.1) (attemptFrom_key _ p true)
theorem forSearch_last (c t : Array Nat) (g n : Nat) (b : Bool) (p : Nat) : (forSearch c t g p n b).lastStart ≤ p + n := by
  unfold forSearch; dsimp only
  split
  · exact Nat.zero_le _
  · refine Nat.le_trans (Nat.le_of_eq (congrArg (fun x => x.2.2.2) (attemptFrom_key _ p true))) ?_
    show (if (decide ((header c).fst > 1) && !((header c).snd != 0 && c.getD 2 0 &&& 5 != 0)) = true then max p (n - ((header c).fst - 1)) else n) ≤ _
    split <;> omega
theorem finds_sym {c : Array Nat} {l : List Nat} {g pos : Nat} {f : Fd} (k : Nat) (hk : k ≤ 1000) (hl : l.length ≤ 2 ^ 20) (h : fdOf (runFor' k (forSearch c l.toArray g pos l.length false)) = some f) : finds (forSearch c (st l).cps g pos (st l).cps.size false) f :=
  ⟨k, by omega, by
    rw [← runFor'_eq _ _ (by rw [forSearch_lim]; show l.length ≤ _; omega)]; exact h⟩
theorem fails_sym {c : Array Nat} {l : List Nat} {g pos pc p : Nat} (k : Nat) (hk : k ≤ 1000) (hl : l.length ≤ 2 ^ 20) (hp : pos ≤ 1000) (ha : anch c pc = true) (h : failSt (runFor' k (forSearch c l.toArray g pos l.length false)) = some (pc, p)) : fails (forSearch c (st l).cps g pos (st l).cps.size false) := by
  have hlim : (forSearch c (st l).cps g pos (st l).cps.size false).lim ≤ 4294967295 := by rw [forSearch_lim]; show l.length ≤ _; omega
  have e := runFor'_eq k _ hlim
  have h2 : failSt ((forSearch c (st l).cps g pos (st l).cps.size false).runFor k) = some (pc, p) := by rw [← e]; exact h
  have kk := runFor_key k (forSearch c (st l).cps g pos (st l).cps.size false)
  have ec : ((forSearch c (st l).cps g pos (st l).cps.size false).runFor k).code = c := (congrArg (fun x => x.1) kk).trans (forSearch_code ..)
  have es : ((forSearch c (st l).cps g pos (st l).cps.size false).runFor k).lastStart ≤ pos + l.length := Nat.le_trans (Nat.le_of_eq (congrArg (fun x => x.2.2.2) kk)) (forSearch_last ..)
  refine ⟨k + (2 * (pos + l.length) + 2), by omega, ?_⟩
  rw [runFor_add]
  exact fail_run _ h2 (by rw [ec]; exact ha) (by omega)
theorem fails_now {c : Array Nat} {l : List Nat} {g pos : Nat} (k : Nat) (hk : k ≤ 1000) (hl : l.length ≤ 2 ^ 20) (h : fdOf (runFor' k (forSearch c l.toArray g pos l.length false)) = some ⟨false, 0, 0, [], 0, 0⟩) : fails (forSearch c (st l).cps g pos (st l).cps.size false) :=
  fails_of (k := k) (by omega) (by
    rw [← runFor'_eq _ _ (by rw [forSearch_lim]; show l.length ≤ _; omega)]; exact h)
theorem part_st (l : List Nat) (i j : Nat) : part (st l) i j = st ((l.drop i).take (j - i)) := by
  unfold part st
  congr 1
  apply Array.ext'
  simp
theorem cut_st (l : List Nat) (b : Nat) : cut (st l) b = st (l.drop b) := rfl
def T : Nat → List Nat
  | 0 => [97]
  | 1 => [97, 61, 34, 34]
  | 2 => [97, 61, 98]
  | 3 => [97, 61, 34, 98, 92, 34, 34]
  | 4 => [97, 61, 34, 92, 92, 44, 32, 97, 34]
  | _ => [97, 59, 32, 98, 61, 34, 97, 59, 34]
theorem T_txt : ∀ i, txt i = st (T i)
  | 0 => by decide +kernel
  | 1 => by decide +kernel
  | 2 => by decide +kernel
  | 3 => by decide +kernel
  | 4 => by decide +kernel
  | n + 5 => by show Str.ofString "a; b=\"a;\"" = st [97, 59, 32, 98, 61, 34, 97, 59, 34]; decide +kernel

def stp (i : Nat) : Nat := if i < 5 then 1 else 3
theorem wd0 : wd 0 = [(st [97], none)] := by decide +kernel
theorem wd1 : wd 1 = [(st [97], some (st []))] := by decide +kernel
theorem wd2 : wd 2 = [(st [97], some (st [98]))] := by decide +kernel
theorem wd3 : wd 3 = [(st [97], some (st [98, 34]))] := by decide +kernel
theorem wd4 : wd 4 = [(st [97], some (st [92, 44, 32, 97]))] := by decide +kernel
theorem wd5 : wd 5 = [(st [97], none), (st [98], some (st [97, 59]))] := by decide +kernel
theorem g0_0E {n : Nat} {pr : List KV} {R : List (List KV)} (h : Go n (st ([])) (pr ++ wd 0) R) : Go (n + 1) (st ([97])) pr R := by
  rw [wd0] at h
  refine Go.non (b := 1) (i := 0) (j := 1) (li := 1) (by ((simp only [cut_st, st_len, List.length_cons, List.drop_succ_cons, List.drop_zero, List.length_nil]; omega))) (by (exact finds_sym 40 (by decide) (by simp only [List.drop_succ_cons, List.drop_zero, List.length_cons, List.length_nil]; omega) (by kernel_rfl!))) (by decide) (by ((simp only [cut_st, st_len, List.length_cons, List.drop_succ_cons, List.drop_zero, List.length_nil]; omega))) (by (first | exact fails_now 1 (by decide) (by simp only [List.drop_succ_cons, List.drop_zero, List.length_cons, List.length_nil]; omega) (by kernel_rfl!) | exact fails_sym (pc := 5) (p := 0) 4 (by decide) (by simp only [List.drop_succ_cons, List.drop_zero, List.length_cons, List.length_nil]; omega) (by decide) (by decide +kernel) (by kernel_rfl!) | exact fails_sym (pc := 5) (p := 0) 5 (by decide) (by simp only [List.drop_succ_cons, List.drop_zero, List.length_cons, List.length_nil]; omega) (by decide) (by decide +kernel) (by kernel_rfl!) | exact fails_sym (pc := 5) (p := 0) 7 (by decide) (by simp only [List.drop_succ_cons, List.drop_zero, List.length_cons, List.length_nil]; omega) (by decide) (by decide +kernel) (by kernel_rfl!) | exact fails_sym (pc := 5) (p := 2) 1 (by decide) (by simp only [List.drop_succ_cons, List.drop_zero, List.length_cons, List.length_nil]; omega) (by decide) (by decide +kernel) (by kernel_rfl!))) (by (first | exact fails_now 1 (by decide) (by simp only [List.drop_succ_cons, List.drop_zero, List.length_cons, List.length_nil]; omega) (by kernel_rfl!) | exact fails_sym (pc := 5) (p := 0) 4 (by decide) (by simp only [List.drop_succ_cons, List.drop_zero, List.length_cons, List.length_nil]; omega) (by decide) (by decide +kernel) (by kernel_rfl!) | exact fails_sym (pc := 5) (p := 0) 5 (by decide) (by simp only [List.drop_succ_cons, List.drop_zero, List.length_cons, List.length_nil]; omega) (by decide) (by decide +kernel) (by kernel_rfl!) | exact fails_sym (pc := 5) (p := 0) 7 (by decide) (by simp only [List.drop_succ_cons, List.drop_zero, List.length_cons, List.length_nil]; omega) (by decide) (by decide +kernel) (by kernel_rfl!) | exact fails_sym (pc := 5) (p := 2) 1 (by decide) (by simp only [List.drop_succ_cons, List.drop_zero, List.length_cons, List.length_nil]; omega) (by decide) (by decide +kernel) (by kernel_rfl!))) ?_
  ((simp only [cut_st, part_st, List.drop_succ_cons, List.drop_zero, List.take_succ_cons, List.take_zero, Nat.reduceSub]))
  exact h
theorem g0_0C {tl : List Nat} (ht : tl.length ≤ 900) {n : Nat} {pr : List KV} {R : List (List KV)} (h : Go n (st (44 :: 32 :: 97 :: tl)) (pr ++ wd 0) R) : Go (n + 1) (st (97 :: 44 :: 32 :: 97 :: tl)) pr R := by
  rw [wd0] at h
  refine Go.non (b := 1) (i := 0) (j := 1) (li := 1) (by ((simp only [cut_st, st_len, List.length_cons, List.drop_succ_cons, List.drop_zero, List.length_nil]; omega))) (by (exact finds_sym 40 (by decide) (by simp only [List.drop_succ_cons, List.drop_zero, List.length_cons, List.length_nil]; omega) (by kernel_rfl!))) (by decide) (by ((simp only [cut_st, st_len, List.length_cons, List.drop_succ_cons, List.drop_zero, List.length_nil]; omega))) (by (first | exact fails_now 1 (by decide) (by simp only [List.drop_succ_cons, List.drop_zero, List.length_cons, List.length_nil]; omega) (by kernel_rfl!) | exact fails_sym (pc := 5) (p := 0) 4 (by decide) (by simp only [List.drop_succ_cons, List.drop_zero, List.length_cons, List.length_nil]; omega) (by decide) (by decide +kernel) (by kernel_rfl!) | exact fails_sym (pc := 5) (p := 0) 5 (by decide) (by simp only [List.drop_succ_cons, List.drop_zero, List.length_cons, List.length_nil]; omega) (by decide) (by decide +kernel) (by kernel_rfl!) | exact fails_sym (pc := 5) (p := 0) 7 (by decide) (by simp only [List.drop_succ_cons, List.drop_zero, List.length_cons, List.length_nil]; omega) (by decide) (by decide +kernel) (by kernel_rfl!) | exact fails_sym (pc := 5) (p := 2) 1 (by decide) (by simp only [List.drop_succ_cons, List.drop_zero, List.length_cons, List.length_nil]; omega) (by decide) (by decide +kernel) (by kernel_rfl!))) (by (first | exact fails_now 1 (by decide) (by simp only [List.drop_succ_cons, List.drop_zero, List.length_cons, List.length_nil]; omega) (by kernel_rfl!) | exact fails_sym (pc := 5) (p := 0) 4 (by decide) (by simp only [List.drop_succ_cons, List.drop_zero, List.length_cons, List.length_nil]; omega) (by decide) (by decide +kernel) (by kernel_rfl!) | exact fails_sym (pc := 5) (p := 0) 5 (by decide) (by simp only [List.drop_succ_cons, List.drop_zero, List.length_cons, List.length_nil]; omega) (by decide) (by decide +kernel) (by kernel_rfl!) | exact fails_sym (pc := 5) (p := 0) 7 (by decide) (by simp only [List.drop_succ_cons, List.drop_zero, List.length_cons, List.length_nil]; omega) (by decide) (by decide +kernel) (by kernel_rfl!) | exact fails_sym (pc := 5) (p := 2) 1 (by decide) (by simp only [List.drop_succ_cons, List.drop_zero, List.length_cons, List.length_nil]; omega) (by decide) (by decide +kernel) (by kernel_rfl!))) ?_
  ((simp only [cut_st, part_st, List.drop_succ_cons, List.drop_zero, List.take_succ_cons, List.take_zero, Nat.reduceSub]))
  exact h
theorem g0_1E {n : Nat} {pr : List KV} {R : List (List KV)} (h : Go n (st ([])) (pr ++ wd 0) R) : Go (n + 1) (st ([32, 97])) pr R := by
  rw [wd0] at h
  refine Go.non (b := 2) (i := 1) (j := 2) (li := 1) (by ((simp only [cut_st, st_len, List.length_cons, List.drop_succ_cons, List.drop_zero, List.length_nil]; omega))) (by (exact finds_sym 40 (by decide) (by simp only [List.drop_succ_cons, List.drop_zero, List.length_cons, List.length_nil]; omega) (by kernel_rfl!))) (by decide) (by ((simp only [cut_st, st_len, List.length_cons, List.drop_succ_cons, List.drop_zero, List.length_nil]; omega))) (by (first | exact fails_now 1 (by decide) (by simp only [List.drop_succ_cons, List.drop_zero, List.length_cons, List.length_nil]; omega) (by kernel_rfl!) | exact fails_sym (pc := 5) (p := 0) 4 (by decide) (by simp only [List.drop_succ_cons, List.drop_zero, List.length_cons, List.length_nil]; omega) (by decide) (by decide +kernel) (by kernel_rfl!) | exact fails_sym (pc := 5) (p := 0) 5 (by decide) (by simp only [List.drop_succ_cons, List.drop_zero, List.length_cons, List.length_nil]; omega) (by decide) (by decide +kernel) (by kernel_rfl!) | exact fails_sym (pc := 5) (p := 0) 7 (by decide) (by simp only [List.drop_succ_cons, List.drop_zero, List.length_cons, List.length_nil]; omega) (by decide) (by decide +kernel) (by kernel_rfl!) | exact fails_sym (pc := 5) (p := 2) 1 (by decide) (by simp only [List.drop_succ_cons, List.drop_zero, List.length_cons, List.length_nil]; omega) (by decide) (by decide +kernel) (by kernel_rfl!))) (by (first | exact fails_now 1 (by decide) (by simp only [List.drop_succ_cons, List.drop_zero, List.length_cons, List.length_nil]; omega) (by kernel_rfl!) | exact fails_sym (pc := 5) (p := 0) 4 (by decide) (by simp only [List.drop_succ_cons, List.drop_zero, List.length_cons, List.length_nil]; omega) (by decide) (by decide +kernel) (by kernel_rfl!) | exact fails_sym (pc := 5) (p := 0) 5 (by decide) (by simp only [List.drop_succ_cons, List.drop_zero, List.length_cons, List.length_nil]; omega) (by decide) (by decide +kernel) (by kernel_rfl!) | exact fails_sym (pc := 5) (p := 0) 7 (by decide) (by simp only [List.drop_succ_cons, List.drop_zero, List.length_cons, List.length_nil]; omega) (by decide) (by decide +kernel) (by kernel_rfl!) | exact fails_sym (pc := 5) (p := 2) 1 (by decide) (by simp only [List.drop_succ_cons, List.drop_zero, List.length_cons, List.length_nil]; omega) (by decide) (by decide +kernel) (by kernel_rfl!))) ?_
  ((simp only [cut_st, part_st, List.drop_succ_cons, List.drop_zero, List.take_succ_cons, List.take_zero, Nat.reduceSub]))
  exact h
theorem g0_1C {tl : List Nat} (ht : tl.length ≤ 900) {n : Nat} {pr : List KV} {R : List (List KV)} (h : Go n (st (44 :: 32 :: 97 :: tl)) (pr ++ wd 0) R) : Go (n + 1) (st (32 :: 97 :: 44 :: 32 :: 97 :: tl)) pr R := by
  rw [wd0] at h
  refine Go.non (b := 2) (i := 1) (j := 2) (li := 1) (by ((simp only [cut_st, st_len, List.length_cons, List.drop_succ_cons, List.drop_zero, List.length_nil]; omega))) (by (exact finds_sym 40 (by decide) (by simp only [List.drop_succ_cons, List.drop_zero, List.length_cons, List.length_nil]; omega) (by kernel_rfl!))) (by decide) (by ((simp only [cut_st, st_len, List.length_cons, List.drop_succ_cons, List.drop_zero, List.length_nil]; omega))) (by (first | exact fails_now 1 (by decide) (by simp only [List.drop_succ_cons, List.drop_zero, List.length_cons, List.length_nil]; omega) (by kernel_rfl!) | exact fails_sym (pc := 5) (p := 0) 4 (by decide) (by simp only [List.drop_succ_cons, List.drop_zero, List.length_cons, List.length_nil]; omega) (by decide) (by decide +kernel) (by kernel_rfl!) | exact fails_sym (pc := 5) (p := 0) 5 (by decide) (by simp only [List.drop_succ_cons, List.drop_zero, List.length_cons, List.length_nil]; omega) (by decide) (by decide +kernel) (by kernel_rfl!) | exact fails_sym (pc := 5) (p := 0) 7 (by decide) (by simp only [List.drop_succ_cons, List.drop_zero, List.length_cons, List.length_nil]; omega) (by decide) (by decide +kernel) (by kernel_rfl!) | exact fails_sym (pc := 5) (p := 2) 1 (by decide) (by simp only [List.drop_succ_cons, List.drop_zero, List.length_cons, List.length_nil]; omega) (by decide) (by decide +kernel) (by kernel_rfl!))) (by (first | exact fails_now 1 (by decide) (by simp only [List.drop_succ_cons, List.drop_zero, List.length_cons, List.length_nil]; omega) (by kernel_rfl!) | exact fails_sym (pc := 5) (p := 0) 4 (by decide) (by simp only [List.drop_succ_cons, List.drop_zero, List.length_cons, List.length_nil]; omega) (by decide) (by decide +kernel) (by kernel_rfl!) | exact fails_sym (pc := 5) (p := 0) 5 (by decide) (by simp only [List.drop_succ_cons, List.drop_zero, List.length_cons, List.length_nil]; omega) (by decide) (by decide +kernel) (by kernel_rfl!) | exact fails_sym (pc := 5) (p := 0) 7 (by decide) (by simp only [List.drop_succ_cons, List.drop_zero, List.length_cons, List.length_nil]; omega) (by decide) (by decide +kernel) (by kernel_rfl!) | exact fails_sym (pc := 5) (p := 2) 1 (by decide) (by simp only [List.drop_succ_cons, List.drop_zero, List.length_cons, List.length_nil]; omega) (by decide) (by decide +kernel) (by kernel_rfl!))) ?_
  ((simp only [cut_st, part_st, List.drop_succ_cons, List.drop_zero, List.take_succ_cons, List.take_zero, Nat.reduceSub]))
  exact h
theorem g1_0E {n : Nat} {pr : List KV} {R : List (List KV)} (h : Go n (st ([])) (pr ++ wd 1) R) : Go (n + 1) (st ([97, 61, 34, 34])) pr R := by
  rw [wd1] at h
  refine Go.quo (v := st []) (b := 1) (i := 0) (j := 1) (li := 1) (b2 := 3) (i2 := 2) (j2 := 2) (li2 := 1) (by ((simp only [cut_st, st_len, List.length_cons, List.drop_succ_cons, List.drop_zero, List.length_nil]; omega))) (by (exact finds_sym 40 (by decide) (by simp only [List.drop_succ_cons, List.drop_zero, List.length_cons, List.length_nil]; omega) (by kernel_rfl!))) (by decide) (by ((simp only [cut_st, st_len, List.length_cons, List.drop_succ_cons, List.drop_zero, List.length_nil]; omega))) (by (exact finds_sym 40 (by decide) (by simp only [List.drop_succ_cons, List.drop_zero, List.length_cons, List.length_nil]; omega) (by kernel_rfl!))) (by decide) (by ((simp only [cut_st, st_len, List.length_cons, List.drop_succ_cons, List.drop_zero, List.length_nil]; omega))) (by ((simp only [cut_st, part_st, List.drop_succ_cons, List.drop_zero, List.take_succ_cons, List.take_zero, Nat.reduceSub])); decide +kernel) ?_
  ((simp only [cut_st, part_st, List.drop_succ_cons, List.drop_zero, List.take_succ_cons, List.take_zero, Nat.reduceSub]))
  exact h
theorem g1_0C {tl : List Nat} (ht : tl.length ≤ 900) {n : Nat} {pr : List KV} {R : List (List KV)} (h : Go n (st (44 :: 32 :: 97 :: tl)) (pr ++ wd 1) R) : Go (n + 1) (st (97 :: 61 :: 34 :: 34 :: 44 :: 32 :: 97 :: tl)) pr R := by
  rw [wd1] at h
  refine Go.quo (v := st []) (b := 1) (i := 0) (j := 1) (li := 1) (b2 := 3) (i2 := 2) (j2 := 2) (li2 := 1) (by ((simp only [cut_st, st_len, List.length_cons, List.drop_succ_cons, List.drop_zero, List.length_nil]; omega))) (by (exact finds_sym 40 (by decide) (by simp only [List.drop_succ_cons, List.drop_zero, List.length_cons, List.length_nil]; omega) (by kernel_rfl!))) (by decide) (by ((simp only [cut_st, st_len, List.length_cons, List.drop_succ_cons, List.drop_zero, List.length_nil]; omega))) (by (exact finds_sym 40 (by decide) (by simp only [List.drop_succ_cons, List.drop_zero, List.length_cons, List.length_nil]; omega) (by kernel_rfl!))) (by decide) (by ((simp only [cut_st, st_len, List.length_cons, List.drop_succ_cons, List.drop_zero, List.length_nil]; omega))) (by ((simp only [cut_st, part_st, List.drop_succ_cons, List.drop_zero, List.take_succ_cons, List.take_zero, Nat.reduceSub])); decide +kernel) ?_
  ((simp only [cut_st, part_st, List.drop_succ_cons, List.drop_zero, List.take_succ_cons, List.take_zero, Nat.reduceSub]))
  exact h
theorem g1_1E {n : Nat} {pr : List KV} {R : List (List KV)} (h : Go n (st ([])) (pr ++ wd 1) R) : Go (n + 1) (st ([32, 97, 61, 34, 34])) pr R := by
  rw [wd1] at h
  refine Go.quo (v := st []) (b := 2) (i := 1) (j := 2) (li := 1) (b2 := 3) (i2 := 2) (j2 := 2) (li2 := 1) (by ((simp only [cut_st, st_len, List.length_cons, List.drop_succ_cons, List.drop_zero, List.length_nil]; omega))) (by (exact finds_sym 40 (by decide) (by simp only [List.drop_succ_cons, List.drop_zero, List.length_cons, List.length_nil]; omega) (by kernel_rfl!))) (by decide) (by ((simp only [cut_st, st_len, List.length_cons, List.drop_succ_cons, List.drop_zero, List.length_nil]; omega))) (by (exact finds_sym 40 (by decide) (by simp only [List.drop_succ_cons, List.drop_zero, List.length_cons, List.length_nil]; omega) (by kernel_rfl!))) (by decide) (by ((simp only [cut_st, st_len, List.length_cons, List.drop_succ_cons, List.drop_zero, List.length_nil]; omega))) (by ((simp only [cut_st, part_st, List.drop_succ_cons, List.drop_zero, List.take_succ_cons, List.take_zero, Nat.reduceSub])); decide +kernel) ?_
  ((simp only [cut_st, part_st, List.drop_succ_cons, List.drop_zero, List.take_succ_cons, List.take_zero, Nat.reduceSub]))
  exact h
theorem g1_1C {tl : List Nat} (ht : tl.length ≤ 900) {n : Nat} {pr : List KV} {R : List (List KV)} (h : Go n (st (44 :: 32 :: 97 :: tl)) (pr ++ wd 1) R) : Go (n + 1) (st (32 :: 97 :: 61 :: 34 :: 34 :: 44 :: 32 :: 97 :: tl)) pr R := by
  rw [wd1] at h
  refine Go.quo (v := st []) (b := 2) (i := 1) (j := 2) (li := 1) (b2 := 3) (i2 := 2) (j2 := 2) (li2 := 1) (by ((simp only [cut_st, st_len, List.length_cons, List.drop_succ_cons, List.drop_zero, List.length_nil]; omega))) (by (exact finds_sym 40 (by decide) (by simp only [List.drop_succ_cons, List.drop_zero, List.length_cons, List.length_nil]; omega) (by kernel_rfl!))) (by decide) (by ((simp only [cut_st, st_len, List.length_cons, List.drop_succ_cons, List.drop_zero, List.length_nil]; omega))) (by (exact finds_sym 40 (by decide) (by simp only [List.drop_succ_cons, List.drop_zero, List.length_cons, List.length_nil]; omega) (by kernel_rfl!))) (by decide) (by ((simp only [cut_st, st_len, List.length_cons, List.drop_succ_cons, List.drop_zero, List.length_nil]; omega))) (by ((simp only [cut_st, part_st, List.drop_succ_cons, List.drop_zero, List.take_succ_cons, List.take_zero, Nat.reduceSub])); decide +kernel) ?_
  ((simp only [cut_st, part_st, List.drop_succ_cons, List.drop_zero, List.take_succ_cons, List.take_zero, Nat.reduceSub]))
  exact h
theorem g2_0E {n : Nat} {pr : List KV} {R : List (List KV)} (h : Go n (st ([])) (pr ++ wd 2) R) : Go (n + 1) (st ([97, 61, 98])) pr R := by
  rw [wd2] at h
  refine Go.val (b := 1) (i := 0) (j := 1) (li := 1) (b2 := 2) (i2 := 1) (j2 := 2) (li2 := 1) (by ((simp only [cut_st, st_len, List.length_cons, List.drop_succ_cons, List.drop_zero, List.length_nil]; omega))) (by (exact finds_sym 40 (by decide) (by simp only [List.drop_succ_cons, List.drop_zero, List.length_cons, List.length_nil]; omega) (by kernel_rfl!))) (by decide) (by ((simp only [cut_st, st_len, List.length_cons, List.drop_succ_cons, List.drop_zero, List.length_nil]; omega))) (by (first | exact fails_now 1 (by decide) (by simp only [List.drop_succ_cons, List.drop_zero, List.length_cons, List.length_nil]; omega) (by kernel_rfl!) | exact fails_sym (pc := 5) (p := 0) 4 (by decide) (by simp only [List.drop_succ_cons, List.drop_zero, List.length_cons, List.length_nil]; omega) (by decide) (by decide +kernel) (by kernel_rfl!) | exact fails_sym (pc := 5) (p := 0) 5 (by decide) (by simp only [List.drop_succ_cons, List.drop_zero, List.length_cons, List.length_nil]; omega) (by decide) (by decide +kernel) (by kernel_rfl!) | exact fails_sym (pc := 5) (p := 0) 7 (by decide) (by simp only [List.drop_succ_cons, List.drop_zero, List.length_cons, List.length_nil]; omega) (by decide) (by decide +kernel) (by kernel_rfl!) | exact fails_sym (pc := 5) (p := 2) 1 (by decide) (by simp only [List.drop_succ_cons, List.drop_zero, List.length_cons, List.length_nil]; omega) (by decide) (by decide +kernel) (by kernel_rfl!))) (by (exact finds_sym 40 (by decide) (by simp only [List.drop_succ_cons, List.drop_zero, List.length_cons, List.length_nil]; omega) (by kernel_rfl!))) (by decide) (by ((simp only [cut_st, st_len, List.length_cons, List.drop_succ_cons, List.drop_zero, List.length_nil]; omega))) ?_
  have e : Txt.rstrip (st [98]) = st [98] := by decide +kernel
  ((simp only [cut_st, part_st, List.drop_succ_cons, List.drop_zero, List.take_succ_cons, List.take_zero, Nat.reduceSub]))
  rw [e]
  exact h
theorem g2_0C {tl : List Nat} (ht : tl.length ≤ 900) {n : Nat} {pr : List KV} {R : List (List KV)} (h : Go n (st (44 :: 32 :: 97 :: tl)) (pr ++ wd 2) R) : Go (n + 1) (st (97 :: 61 :: 98 :: 44 :: 32 :: 97 :: tl)) pr R := by
  rw [wd2] at h
  refine Go.val (b := 1) (i := 0) (j := 1) (li := 1) (b2 := 2) (i2 := 1) (j2 := 2) (li2 := 1) (by ((simp only [cut_st, st_len, List.length_cons, List.drop_succ_cons, List.drop_zero, List.length_nil]; omega))) (by (exact finds_sym 40 (by decide) (by simp only [List.drop_succ_cons, List.drop_zero, List.length_cons, List.length_nil]; omega) (by kernel_rfl!))) (by decide) (by ((simp only [cut_st, st_len, List.length_cons, List.drop_succ_cons, List.drop_zero, List.length_nil]; omega))) (by (first | exact fails_now 1 (by decide) (by simp only [List.drop_succ_cons, List.drop_zero, List.length_cons, List.length_nil]; omega) (by kernel_rfl!) | exact fails_sym (pc := 5) (p := 0) 4 (by decide) (by simp only [List.drop_succ_cons, List.drop_zero, List.length_cons, List.length_nil]; omega) (by decide) (by decide +kernel) (by kernel_rfl!) | exact fails_sym (pc := 5) (p := 0) 5 (by decide) (by simp only [List.drop_succ_cons, List.drop_zero, List.length_cons, List.length_nil]; omega) (by decide) (by decide +kernel) (by kernel_rfl!) | exact fails_sym (pc := 5) (p := 0) 7 (by decide) (by simp only [List.drop_succ_cons, List.drop_zero, List.length_cons, List.length_nil]; omega) (by decide) (by decide +kernel) (by kernel_rfl!) | exact fails_sym (pc := 5) (p := 2) 1 (by decide) (by simp only [List.drop_succ_cons, List.drop_zero, List.length_cons, List.length_nil]; omega) (by decide) (by decide +kernel) (by kernel_rfl!))) (by (exact finds_sym 40 (by decide) (by simp only [List.drop_succ_cons, List.drop_zero, List.length_cons, List.length_nil]; omega) (by kernel_rfl!))) (by decide) (by ((simp only [cut_st, st_len, List.length_cons, List.drop_succ_cons, List.drop_zero, List.length_nil]; omega))) ?_
  have e : Txt.rstrip (st [98]) = st [98] := by decide +kernel
  ((simp only [cut_st, part_st, List.drop_succ_cons, List.drop_zero, List.take_succ_cons, List.take_zero, Nat.reduceSub]))
  rw [e]
  exact h
theorem g2_1E {n : Nat} {pr : List KV} {R : List (List KV)} (h : Go n (st ([])) (pr ++ wd 2) R) : Go (n + 1) (st ([32, 97, 61, 98])) pr R := by
  rw [wd2] at h
  refine Go.val (b := 2) (i := 1) (j := 2) (li := 1) (b2 := 2) (i2 := 1) (j2 := 2) (li2 := 1) (by ((simp only [cut_st, st_len, List.length_cons, List.drop_succ_cons, List.drop_zero, List.length_nil]; omega))) (by (exact finds_sym 40 (by decide) (by simp only [List.drop_succ_cons, List.drop_zero, List.length_cons, List.length_nil]; omega) (by kernel_rfl!))) (by decide) (by ((simp only [cut_st, st_len, List.length_cons, List.drop_succ_cons, List.drop_zero, List.length_nil]; omega))) (by (first | exact fails_now 1 (by decide) (by simp only [List.drop_succ_cons, List.drop_zero, List.length_cons, List.length_nil]; omega) (by kernel_rfl!) | exact fails_sym (pc := 5) (p := 0) 4 (by decide) (by simp only [List.drop_succ_cons, List.drop_zero, List.length_cons, List.length_nil]; omega) (by decide) (by decide +kernel) (by kernel_rfl!) | exact fails_sym (pc := 5) (p := 0) 5 (by decide) (by simp only [List.drop_succ_cons, List.drop_zero, List.length_cons, List.length_nil]; omega) (by decide) (by decide +kernel) (by kernel_rfl!) | exact fails_sym (pc := 5) (p := 0) 7 (by decide) (by simp only [List.drop_succ_cons, List.drop_zero, List.length_cons, List.length_nil]; omega) (by decide) (by decide +kernel) (by kernel_rfl!) | exact fails_sym (pc := 5) (p := 2) 1 (by decide) (by simp only [List.drop_succ_cons, List.drop_zero, List.length_cons, List.length_nil]; omega) (by decide) (by decide +kernel) (by kernel_rfl!))) (by (exact finds_sym 40 (by decide) (by simp only [List.drop_succ_cons, List.drop_zero, List.length_cons, List.length_nil]; omega) (by kernel_rfl!))) (by decide) (by ((simp only [cut_st, st_len, List.length_cons, List.drop_succ_cons, List.drop_zero, List.length_nil]; omega))) ?_
  have e : Txt.rstrip (st [98]) = st [98] := by decide +kernel
  ((simp only [cut_st, part_st, List.drop_succ_cons, List.drop_zero, List.take_succ_cons, List.take_zero, Nat.reduceSub]))
  rw [e]
  exact h
theorem g2_1C {tl : List Nat} (ht : tl.length ≤ 900) {n : Nat} {pr : List KV} {R : List (List KV)} (h : Go n (st (44 :: 32 :: 97 :: tl)) (pr ++ wd 2) R) : Go (n + 1) (st (32 :: 97 :: 61 :: 98 :: 44 :: 32 :: 97 :: tl)) pr R := by
  rw [wd2] at h
  refine Go.val (b := 2) (i := 1) (j := 2) (li := 1) (b2 := 2) (i2 := 1) (j2 := 2) (li2 := 1) (by ((simp only [cut_st, st_len, List.length_cons, List.drop_succ_cons, List.drop_zero, List.length_nil]; omega))) (by (exact finds_sym 40 (by decide) (by simp only [List.drop_succ_cons, List.drop_zero, List.length_cons, List.length_nil]; omega) (by kernel_rfl!))) (by decide) (by ((simp only [cut_st, st_len, List.length_cons, List.drop_succ_cons, List.drop_zero, List.length_nil]; omega))) (by (first | exact fails_now 1 (by decide) (by simp only [List.drop_succ_cons, List.drop_zero, List.length_cons, List.length_nil]; omega) (by kernel_rfl!) | exact fails_sym (pc := 5) (p := 0) 4 (by decide) (by simp only [List.drop_succ_cons, List.drop_zero, List.length_cons, List.length_nil]; omega) (by decide) (by decide +kernel) (by kernel_rfl!) | exact fails_sym (pc := 5) (p := 0) 5 (by decide) (by simp only [List.drop_succ_cons, List.drop_zero, List.length_cons, List.length_nil]; omega) (by decide) (by decide +kernel) (by kernel_rfl!) | exact fails_sym (pc := 5) (p := 0) 7 (by decide) (by simp only [List.drop_succ_cons, List.drop_zero, List.length_cons, List.length_nil]; omega) (by decide) (by decide +kernel) (by kernel_rfl!) | exact fails_sym (pc := 5) (p := 2) 1 (by decide) (by simp only [List.drop_succ_cons, List.drop_zero, List.length_cons, List.length_nil]; omega) (by decide) (by decide +kernel) (by kernel_rfl!))) (by (exact finds_sym 40 (by decide) (by simp only [List.drop_succ_cons, List.drop_zero, List.length_cons, List.length_nil]; omega) (by kernel_rfl!))) (by decide) (by ((simp only [cut_st, st_len, List.length_cons, List.drop_succ_cons, List.drop_zero, List.length_nil]; omega))) ?_
  have e : Txt.rstrip (st [98]) = st [98] := by decide +kernel
  ((simp only [cut_st, part_st, List.drop_succ_cons, List.drop_zero, List.take_succ_cons, List.take_zero, Nat.reduceSub]))
  rw [e]
  exact h
theorem g3_0E {n : Nat} {pr : List KV} {R : List (List KV)} (h : Go n (st ([])) (pr ++ wd 3) R) : Go (n + 1) (st ([97, 61, 34, 98, 92, 34, 34])) pr R := by
  rw [wd3] at h
  refine Go.quo (v := st [98, 34]) (b := 1) (i := 0) (j := 1) (li := 1) (b2 := 6) (i2 := 2) (j2 := 5) (li2 := 1) (by ((simp only [cut_st, st_len, List.length_cons, List.drop_succ_cons, List.drop_zero, List.length_nil]; omega))) (by (exact finds_sym 40 (by decide) (by simp only [List.drop_succ_cons, List.drop_zero, List.length_cons, List.length_nil]; omega) (by kernel_rfl!))) (by decide) (by ((simp only [cut_st, st_len, List.length_cons, List.drop_succ_cons, List.drop_zero, List.length_nil]; omega))) (by (exact finds_sym 40 (by decide) (by simp only [List.drop_succ_cons, List.drop_zero, List.length_cons, List.length_nil]; omega) (by kernel_rfl!))) (by decide) (by ((simp only [cut_st, st_len, List.length_cons, List.drop_succ_cons, List.drop_zero, List.length_nil]; omega))) (by ((simp only [cut_st, part_st, List.drop_succ_cons, List.drop_zero, List.take_succ_cons, List.take_zero, Nat.reduceSub])); decide +kernel) ?_
  ((simp only [cut_st, part_st, List.drop_succ_cons, List.drop_zero, List.take_succ_cons, List.take_zero, Nat.reduceSub]))
  exact h
theorem g3_0C {tl : List Nat} (ht : tl.length ≤ 900) {n : Nat} {pr : List KV} {R : List (List KV)} (h : Go n (st (44 :: 32 :: 97 :: tl)) (pr ++ wd 3) R) : Go (n + 1) (st (97 :: 61 :: 34 :: 98 :: 92 :: 34 :: 34 :: 44 :: 32 :: 97 :: tl)) pr R := by
  rw [wd3] at h
  refine Go.quo (v := st [98, 34]) (b := 1) (i := 0) (j := 1) (li := 1) (b2 := 6) (i2 := 2) (j2 := 5) (li2 := 1) (by ((simp only [cut_st, st_len, List.length_cons, List.drop_succ_cons, List.drop_zero, List.length_nil]; omega))) (by (exact finds_sym 40 (by decide) (by simp only [List.drop_succ_cons, List.drop_zero, List.length_cons, List.length_nil]; omega) (by kernel_rfl!))) (by decide) (by ((simp only [cut_st, st_len, List.length_cons, List.drop_succ_cons, List.drop_zero, List.length_nil]; omega))) (by (exact finds_sym 40 (by decide) (by simp only [List.drop_succ_cons, List.drop_zero, List.length_cons, List.length_nil]; omega) (by kernel_rfl!))) (by decide) (by ((simp only [cut_st, st_len, List.length_cons, List.drop_succ_cons, List.drop_zero, List.length_nil]; omega))) (by ((simp only [cut_st, part_st, List.drop_succ_cons, List.drop_zero, List.take_succ_cons, List.take_zero, Nat.reduceSub])); decide +kernel) ?_
  ((simp only [cut_st, part_st, List.drop_succ_cons, List.drop_zero, List.take_succ_cons, List.take_zero, Nat.reduceSub]))
  exact h
theorem g3_1E {n : Nat} {pr : List KV} {R : List (List KV)} (h : Go n (st ([])) (pr ++ wd 3) R) : Go (n + 1) (st ([32, 97, 61, 34, 98, 92, 34, 34])) pr R := by
  rw [wd3] at h
  refine Go.quo (v := st [98, 34]) (b := 2) (i := 1) (j := 2) (li := 1) (b2 := 6) (i2 := 2) (j2 := 5) (li2 := 1) (by ((simp only [cut_st, st_len, List.length_cons, List.drop_succ_cons, List.drop_zero, List.length_nil]; omega))) (by (exact finds_sym 40 (by decide) (by simp only [List.drop_succ_cons, List.drop_zero, List.length_cons, List.length_nil]; omega) (by kernel_rfl!))) (by decide) (by ((simp only [cut_st, st_len, List.length_cons, List.drop_succ_cons, List.drop_zero, List.length_nil]; omega))) (by (exact finds_sym 40 (by decide) (by simp only [List.drop_succ_cons, List.drop_zero, List.length_cons, List.length_nil]; omega) (by kernel_rfl!))) (by decide) (by ((simp only [cut_st, st_len, List.length_cons, List.drop_succ_cons, List.drop_zero, List.length_nil]; omega))) (by ((simp only [cut_st, part_st, List.drop_succ_cons, List.drop_zero, List.take_succ_cons, List.take_zero, Nat.reduceSub])); decide +kernel) ?_
  ((simp only [cut_st, part_st, List.drop_succ_cons, List.drop_zero, List.take_succ_cons, List.take_zero, Nat.reduceSub]))
  exact h
theorem g3_1C {tl : List Nat} (ht : tl.length ≤ 900) {n : Nat} {pr : List KV} {R : List (List KV)} (h : Go n (st (44 :: 32 :: 97 :: tl)) (pr ++ wd 3) R) : Go (n + 1) (st (32 :: 97 :: 61 :: 34 :: 98 :: 92 :: 34 :: 34 :: 44 :: 32 :: 97 :: tl)) pr R := by
  rw [wd3] at h
  refine Go.quo (v := st [98, 34]) (b := 2) (i := 1) (j := 2) (li := 1) (b2 := 6) (i2 := 2) (j2 := 5) (li2 := 1) (by ((simp only [cut_st, st_len, List.length_cons, List.drop_succ_cons, List.drop_zero, List.length_nil]; omega))) (by (exact finds_sym 40 (by decide) (by simp only [List.drop_succ_cons, List.drop_zero, List.length_cons, List.length_nil]; omega) (by kernel_rfl!))) (by decide) (by ((simp only [cut_st, st_len, List.length_cons, List.drop_succ_cons, List.drop_zero, List.length_nil]; omega))) (by (exact finds_sym 40 (by decide) (by simp only [List.drop_succ_cons, List.drop_zero, List.length_cons, List.length_nil]; omega) (by kernel_rfl!))) (by decide) (by ((simp only [cut_st, st_len, List.length_cons, List.drop_succ_cons, List.drop_zero, List.length_nil]; omega))) (by ((simp only [cut_st, part_st, List.drop_succ_cons, List.drop_zero, List.take_succ_cons, List.take_zero, Nat.reduceSub])); decide +kernel) ?_
  ((simp only [cut_st, part_st, List.drop_succ_cons, List.drop_zero, List.take_succ_cons, List.take_zero, Nat.reduceSub]))
  exact h
theorem g4_0E {n : Nat} {pr : List KV} {R : List (List KV)} (h : Go n (st ([])) (pr ++ wd 4) R) : Go (n + 1) (st ([97, 61, 34, 92, 92, 44, 32, 97, 34])) pr R := by
  rw [wd4] at h
  refine Go.quo (v := st [92, 44, 32, 97]) (b := 1) (i := 0) (j := 1) (li := 1) (b2 := 8) (i2 := 2) (j2 := 7) (li2 := 1) (by ((simp only [cut_st, st_len, List.length_cons, List.drop_succ_cons, List.drop_zero, List.length_nil]; omega))) (by (exact finds_sym 40 (by decide) (by simp only [List.drop_succ_cons, List.drop_zero, List.length_cons, List.length_nil]; omega) (by kernel_rfl!))) (by decide) (by ((simp only [cut_st, st_len, List.length_cons, List.drop_succ_cons, List.drop_zero, List.length_nil]; omega))) (by (exact finds_sym 40 (by decide) (by simp only [List.drop_succ_cons, List.drop_zero, List.length_cons, List.length_nil]; omega) (by kernel_rfl!))) (by decide) (by ((simp only [cut_st, st_len, List.length_cons, List.drop_succ_cons, List.drop_zero, List.length_nil]; omega))) (by ((simp only [cut_st, part_st, List.drop_succ_cons, List.drop_zero, List.take_succ_cons, List.take_zero, Nat.reduceSub])); decide +kernel) ?_
  ((simp only [cut_st, part_st, List.drop_succ_cons, List.drop_zero, List.take_succ_cons, List.take_zero, Nat.reduceSub]))
  exact h
theorem g4_0C {tl : List Nat} (ht : tl.length ≤ 900) {n : Nat} {pr : List KV} {R : List (List KV)} (h : Go n (st (44 :: 32 :: 97 :: tl)) (pr ++ wd 4) R) : Go (n + 1) (st (97 :: 61 :: 34 :: 92 :: 92 :: 44 :: 32 :: 97 :: 34 :: 44 :: 32 :: 97 :: tl)) pr R := by
  rw [wd4] at h
  refine Go.quo (v := st [92, 44, 32, 97]) (b := 1) (i := 0) (j := 1) (li := 1) (b2 := 8) (i2 := 2) (j2 := 7) (li2 := 1) (by ((simp only [cut_st, st_len, List.length_cons, List.drop_succ_cons, List.drop_zero, List.length_nil]; omega))) (by (exact finds_sym 40 (by decide) (by simp only [List.drop_succ_cons, List.drop_zero, List.length_cons, List.length_nil]; omega) (by kernel_rfl!))) (by decide) (by ((simp only [cut_st, st_len, List.length_cons, List.drop_succ_cons, List.drop_zero, List.length_nil]; omega))) (by (exact finds_sym 40 (by decide) (by simp only [List.drop_succ_cons, List.drop_zero, List.length_cons, List.length_nil]; omega) (by kernel_rfl!))) (by decide) (by ((simp only [cut_st, st_len, List.length_cons, List.drop_succ_cons, List.drop_zero, List.length_nil]; omega))) (by ((simp only [cut_st, part_st, List.drop_succ_cons, List.drop_zero, List.take_succ_cons, List.take_zero, Nat.reduceSub])); decide +kernel) ?_
  ((simp only [cut_st, part_st, List.drop_succ_cons, List.drop_zero, List.take_succ_cons, List.take_zero, Nat.reduceSub]))
  exact h
theorem g4_1E {n : Nat} {pr : List KV} {R : List (List KV)} (h : Go n (st ([])) (pr ++ wd 4) R) : Go (n + 1) (st ([32, 97, 61, 34, 92, 92, 44, 32, 97, 34])) pr R := by
  rw [wd4] at h
  refine Go.quo (v := st [92, 44, 32, 97]) (b := 2) (i := 1) (j := 2) (li := 1) (b2 := 8) (i2 := 2) (j2 := 7) (li2 := 1) (by ((simp only [cut_st, st_len, List.length_cons, List.drop_succ_cons, List.drop_zero, List.length_nil]; omega))) (by (exact finds_sym 40 (by decide) (by simp only [List.drop_succ_cons, List.drop_zero, List.length_cons, List.length_nil]; omega) (by kernel_rfl!))) (by decide) (by ((simp only [cut_st, st_len, List.length_cons, List.drop_succ_cons, List.drop_zero, List.length_nil]; omega))) (by (exact finds_sym 40 (by decide) (by simp only [List.drop_succ_cons, List.drop_zero, List.length_cons, List.length_nil]; omega) (by kernel_rfl!))) (by decide) (by ((simp only [cut_st, st_len, List.length_cons, List.drop_succ_cons, List.drop_zero, List.length_nil]; omega))) (by ((simp only [cut_st, part_st, List.drop_succ_cons, List.drop_zero, List.take_succ_cons, List.take_zero, Nat.reduceSub])); decide +kernel) ?_
  ((simp only [cut_st, part_st, List.drop_succ_cons, List.drop_zero, List.take_succ_cons, List.take_zero, Nat.reduceSub]))
  exact h
theorem g4_1C {tl : List Nat} (ht : tl.length ≤ 900) {n : Nat} {pr : List KV} {R : List (List KV)} (h : Go n (st (44 :: 32 :: 97 :: tl)) (pr ++ wd 4) R) : Go (n + 1) (st (32 :: 97 :: 61 :: 34 :: 92 :: 92 :: 44 :: 32 :: 97 :: 34 :: 44 :: 32 :: 97 :: tl)) pr R := by
  rw [wd4] at h
  refine Go.quo (v := st [92, 44, 32, 97]) (b := 2) (i := 1) (j := 2) (li := 1) (b2 := 8) (i2 := 2) (j2 := 7) (li2 := 1) (by ((simp only [cut_st, st_len, List.length_cons, List.drop_succ_cons, List.drop_zero, List.length_nil]; omega))) (by (exact finds_sym 40 (by decide) (by simp only [List.drop_succ_cons, List.drop_zero, List.length_cons, List.length_nil]; omega) (by kernel_rfl!))) (by decide) (by ((simp only [cut_st, st_len, List.length_cons, List.drop_succ_cons, List.drop_zero, List.length_nil]; omega))) (by (exact finds_sym 40 (by decide) (by simp only [List.drop_succ_cons, List.drop_zero, List.length_cons, List.length_nil]; omega) (by kernel_rfl!))) (by decide) (by ((simp only [cut_st, st_len, List.length_cons, List.drop_succ_cons, List.drop_zero, List.length_nil]; omega))) (by ((simp only [cut_st, part_st, List.drop_succ_cons, List.drop_zero, List.take_succ_cons, List.take_zero, Nat.reduceSub])); decide +kernel) ?_
  ((simp only [cut_st, part_st, List.drop_succ_cons, List.drop_zero, List.take_succ_cons, List.take_zero, Nat.reduceSub]))
  exact h
theorem g5_0E {n : Nat} {pr : List KV} {R : List (List KV)} (h : Go n (st ([])) (pr ++ wd 5) R) : Go (n + 3) (st ([97, 59, 32, 98, 61, 34, 97, 59, 34])) pr R := by
  rw [wd5] at h
  refine Go.non (b := 1) (i := 0) (j := 1) (li := 1) (by ((simp only [cut_st, st_len, List.length_cons, List.drop_succ_cons, List.drop_zero, List.length_nil]; omega))) (by (exact finds_sym 40 (by decide) (by simp only [List.drop_succ_cons, List.drop_zero, List.length_cons, List.length_nil]; omega) (by kernel_rfl!))) (by decide) (by ((simp only [cut_st, st_len, List.length_cons, List.drop_succ_cons, List.drop_zero, List.length_nil]; omega))) (by (first | exact fails_now 1 (by decide) (by simp only [List.drop_succ_cons, List.drop_zero, List.length_cons, List.length_nil]; omega) (by kernel_rfl!) | exact fails_sym (pc := 5) (p := 0) 4 (by decide) (by simp only [List.drop_succ_cons, List.drop_zero, List.length_cons, List.length_nil]; omega) (by decide) (by decide +kernel) (by kernel_rfl!) | exact fails_sym (pc := 5) (p := 0) 5 (by decide) (by simp only [List.drop_succ_cons, List.drop_zero, List.length_cons, List.length_nil]; omega) (by decide) (by decide +kernel) (by kernel_rfl!) | exact fails_sym (pc := 5) (p := 0) 7 (by decide) (by simp only [List.drop_succ_cons, List.drop_zero, List.length_cons, List.length_nil]; omega) (by decide) (by decide +kernel) (by kernel_rfl!) | exact fails_sym (pc := 5) (p := 2) 1 (by decide) (by simp only [List.drop_succ_cons, List.drop_zero, List.length_cons, List.length_nil]; omega) (by decide) (by decide +kernel) (by kernel_rfl!))) (by (first | exact fails_now 1 (by decide) (by simp only [List.drop_succ_cons, List.drop_zero, List.length_cons, List.length_nil]; omega) (by kernel_rfl!) | exact fails_sym (pc := 5) (p := 0) 4 (by decide) (by simp only [List.drop_succ_cons, List.drop_zero, List.length_cons, List.length_nil]; omega) (by decide) (by decide +kernel) (by kernel_rfl!) | exact fails_sym (pc := 5) (p := 0) 5 (by decide) (by simp only [List.drop_succ_cons, List.drop_zero, List.length_cons, List.length_nil]; omega) (by decide) (by decide +kernel) (by kernel_rfl!) | exact fails_sym (pc := 5) (p := 0) 7 (by decide) (by simp only [List.drop_succ_cons, List.drop_zero, List.length_cons, List.length_nil]; omega) (by decide) (by decide +kernel) (by kernel_rfl!) | exact fails_sym (pc := 5) (p := 2) 1 (by decide) (by simp only [List.drop_succ_cons, List.drop_zero, List.length_cons, List.length_nil]; omega) (by decide) (by decide +kernel) (by kernel_rfl!))) ?_
  ((simp only [cut_st, part_st, List.drop_succ_cons, List.drop_zero, List.take_succ_cons, List.take_zero, Nat.reduceSub]))
  show Go (n + 2) (st ([59, 32, 98, 61, 34, 97, 59, 34])) _ R
  refine Go.jnk (b := 2) (li := -1) (by ((simp only [cut_st, st_len, List.length_cons, List.drop_succ_cons, List.drop_zero, List.length_nil]; omega))) (by (first | exact fails_now 1 (by decide) (by simp only [List.drop_succ_cons, List.drop_zero, List.length_cons, List.length_nil]; omega) (by kernel_rfl!) | exact fails_sym (pc := 5) (p := 0) 4 (by decide) (by simp only [List.drop_succ_cons, List.drop_zero, List.length_cons, List.length_nil]; omega) (by decide) (by decide +kernel) (by kernel_rfl!) | exact fails_sym (pc := 5) (p := 0) 5 (by decide) (by simp only [List.drop_succ_cons, List.drop_zero, List.length_cons, List.length_nil]; omega) (by decide) (by decide +kernel) (by kernel_rfl!) | exact fails_sym (pc := 5) (p := 0) 7 (by decide) (by simp only [List.drop_succ_cons, List.drop_zero, List.length_cons, List.length_nil]; omega) (by decide) (by decide +kernel) (by kernel_rfl!) | exact fails_sym (pc := 5) (p := 2) 1 (by decide) (by simp only [List.drop_succ_cons, List.drop_zero, List.length_cons, List.length_nil]; omega) (by decide) (by decide +kernel) (by kernel_rfl!))) (lstrip_same _ 59 _ rfl (by decide +kernel)) (starts_other _ _ (by decide)) (by (exact finds_sym 40 (by decide) (by simp only [List.drop_succ_cons, List.drop_zero, List.length_cons, List.length_nil]; omega) (by kernel_rfl!))) (by decide) (by ((simp only [cut_st, st_len, List.length_cons, List.drop_succ_cons, List.drop_zero, List.length_nil]; omega))) (by (first | exact fails_now 1 (by decide) (by simp only [List.drop_succ_cons, List.drop_zero, List.length_cons, List.length_nil]; omega) (by kernel_rfl!) | exact fails_sym (pc := 5) (p := 0) 4 (by decide) (by simp only [List.drop_succ_cons, List.drop_zero, List.length_cons, List.length_nil]; omega) (by decide) (by decide +kernel) (by kernel_rfl!) | exact fails_sym (pc := 5) (p := 0) 5 (by decide) (by simp only [List.drop_succ_cons, List.drop_zero, List.length_cons, List.length_nil]; omega) (by decide) (by decide +kernel) (by kernel_rfl!) | exact fails_sym (pc := 5) (p := 0) 7 (by decide) (by simp only [List.drop_succ_cons, List.drop_zero, List.length_cons, List.length_nil]; omega) (by decide) (by decide +kernel) (by kernel_rfl!) | exact fails_sym (pc := 5) (p := 2) 1 (by decide) (by simp only [List.drop_succ_cons, List.drop_zero, List.length_cons, List.length_nil]; omega) (by decide) (by decide +kernel) (by kernel_rfl!))) ?_
  ((simp only [cut_st, part_st, List.drop_succ_cons, List.drop_zero, List.take_succ_cons, List.take_zero, Nat.reduceSub]))
  refine Go.quo (v := st [97, 59]) (b := 1) (i := 0) (j := 1) (li := 1) (b2 := 5) (i2 := 2) (j2 := 4) (li2 := 1) (by ((simp only [cut_st, st_len, List.length_cons, List.drop_succ_cons, List.drop_zero, List.length_nil]; omega))) (by (exact finds_sym 40 (by decide) (by simp only [List.drop_succ_cons, List.drop_zero, List.length_cons, List.length_nil]; omega) (by kernel_rfl!))) (by decide) (by ((simp only [cut_st, st_len, List.length_cons, List.drop_succ_cons, List.drop_zero, List.length_nil]; omega))) (by (exact finds_sym 40 (by decide) (by simp only [List.drop_succ_cons, List.drop_zero, List.length_cons, List.length_nil]; omega) (by kernel_rfl!))) (by decide) (by ((simp only [cut_st, st_len, List.length_cons, List.drop_succ_cons, List.drop_zero, List.length_nil]; omega))) (by ((simp only [cut_st, part_st, List.drop_succ_cons, List.drop_zero, List.take_succ_cons, List.take_zero, Nat.reduceSub])); decide +kernel) ?_
  ((simp only [cut_st, part_st, List.drop_succ_cons, List.drop_zero, List.take_succ_cons, List.take_zero, Nat.reduceSub]))
  rw [List.append_assoc]
  exact h
theorem g5_0C {tl : List Nat} (ht : tl.length ≤ 900) {n : Nat} {pr : List KV} {R : List (List KV)} (h : Go n (st (44 :: 32 :: 97 :: tl)) (pr ++ wd 5) R) : Go (n + 3) (st (97 :: 59 :: 32 :: 98 :: 61 :: 34 :: 97 :: 59 :: 34 :: 44 :: 32 :: 97 :: tl)) pr R := by
  rw [wd5] at h
  refine Go.non (b := 1) (i := 0) (j := 1) (li := 1) (by ((simp only [cut_st, st_len, List.length_cons, List.drop_succ_cons, List.drop_zero, List.length_nil]; omega))) (by (exact finds_sym 40 (by decide) (by simp only [List.drop_succ_cons, List.drop_zero, List.length_cons, List.length_nil]; omega) (by kernel_rfl!))) (by decide) (by ((simp only [cut_st, st_len, List.length_cons, List.drop_succ_cons, List.drop_zero, List.length_nil]; omega))) (by (first | exact fails_now 1 (by decide) (by simp only [List.drop_succ_cons, List.drop_zero, List.length_cons, List.length_nil]; omega) (by kernel_rfl!) | exact fails_sym (pc := 5) (p := 0) 4 (by decide) (by simp only [List.drop_succ_cons, List.drop_zero, List.length_cons, List.length_nil]; omega) (by decide) (by decide +kernel) (by kernel_rfl!) | exact fails_sym (pc := 5) (p := 0) 5 (by decide) (by simp only [List.drop_succ_cons, List.drop_zero, List.length_cons, List.length_nil]; omega) (by decide) (by decide +kernel) (by kernel_rfl!) | exact fails_sym (pc := 5) (p := 0) 7 (by decide) (by simp only [List.drop_succ_cons, List.drop_zero, List.length_cons, List.length_nil]; omega) (by decide) (by decide +kernel) (by kernel_rfl!) | exact fails_sym (pc := 5) (p := 2) 1 (by decide) (by simp only [List.drop_succ_cons, List.drop_zero, List.length_cons, List.length_nil]; omega) (by decide) (by decide +kernel) (by kernel_rfl!))) (by (first | exact fails_now 1 (by decide) (by simp only [List.drop_succ_cons, List.drop_zero, List.length_cons, List.length_nil]; omega) (by kernel_rfl!) | exact fails_sym (pc := 5) (p := 0) 4 (by decide) (by simp only [List.drop_succ_cons, List.drop_zero, List.length_cons, List.length_nil]; omega) (by decide) (by decide +kernel) (by kernel_rfl!) | exact fails_sym (pc := 5) (p := 0) 5 (by decide) (by simp only [List.drop_succ_cons, List.drop_zero, List.length_cons, List.length_nil]; omega) (by decide) (by decide +kernel) (by kernel_rfl!) | exact fails_sym (pc := 5) (p := 0) 7 (by decide) (by simp only [List.drop_succ_cons, List.drop_zero, List.length_cons, List.length_nil]; omega) (by decide) (by decide +kernel) (by kernel_rfl!) | exact fails_sym (pc := 5) (p := 2) 1 (by decide) (by simp only [List.drop_succ_cons, List.drop_zero, List.length_cons, List.length_nil]; omega) (by decide) (by decide +kernel) (by kernel_rfl!))) ?_
  ((simp only [cut_st, part_st, List.drop_succ_cons, List.drop_zero, List.take_succ_cons, List.take_zero, Nat.reduceSub]))
  show Go (n + 2) (st (59 :: 32 :: 98 :: 61 :: 34 :: 97 :: 59 :: 34 :: 44 :: 32 :: 97 :: tl)) _ R
  refine Go.jnk (b := 2) (li := -1) (by ((simp only [cut_st, st_len, List.length_cons, List.drop_succ_cons, List.drop_zero, List.length_nil]; omega))) (by (first | exact fails_now 1 (by decide) (by simp only [List.drop_succ_cons, List.drop_zero, List.length_cons, List.length_nil]; omega) (by kernel_rfl!) | exact fails_sym (pc := 5) (p := 0) 4 (by decide) (by simp only [List.drop_succ_cons, List.drop_zero, List.length_cons, List.length_nil]; omega) (by decide) (by decide +kernel) (by kernel_rfl!) | exact fails_sym (pc := 5) (p := 0) 5 (by decide) (by simp only [List.drop_succ_cons, List.drop_zero, List.length_cons, List.length_nil]; omega) (by decide) (by decide +kernel) (by kernel_rfl!) | exact fails_sym (pc := 5) (p := 0) 7 (by decide) (by simp only [List.drop_succ_cons, List.drop_zero, List.length_cons, List.length_nil]; omega) (by decide) (by decide +kernel) (by kernel_rfl!) | exact fails_sym (pc := 5) (p := 2) 1 (by decide) (by simp only [List.drop_succ_cons, List.drop_zero, List.length_cons, List.length_nil]; omega) (by decide) (by decide +kernel) (by kernel_rfl!))) (lstrip_same _ 59 _ rfl (by decide +kernel)) (starts_other _ _ (by decide)) (by (exact finds_sym 40 (by decide) (by simp only [List.drop_succ_cons, List.drop_zero, List.length_cons, List.length_nil]; omega) (by kernel_rfl!))) (by decide) (by ((simp only [cut_st, st_len, List.length_cons, List.drop_succ_cons, List.drop_zero, List.length_nil]; omega))) (by (first | exact fails_now 1 (by decide) (by simp only [List.drop_succ_cons, List.drop_zero, List.length_cons, List.length_nil]; omega) (by kernel_rfl!) | exact fails_sym (pc := 5) (p := 0) 4 (by decide) (by simp only [List.drop_succ_cons, List.drop_zero, List.length_cons, List.length_nil]; omega) (by decide) (by decide +kernel) (by kernel_rfl!) | exact fails_sym (pc := 5) (p := 0) 5 (by decide) (by simp only [List.drop_succ_cons, List.drop_zero, List.length_cons, List.length_nil]; omega) (by decide) (by decide +kernel) (by kernel_rfl!) | exact fails_sym (pc := 5) (p := 0) 7 (by decide) (by simp only [List.drop_succ_cons, List.drop_zero, List.length_cons, List.length_nil]; omega) (by decide) (by decide +kernel) (by kernel_rfl!) | exact fails_sym (pc := 5) (p := 2) 1 (by decide) (by simp only [List.drop_succ_cons, List.drop_zero, List.length_cons, List.length_nil]; omega) (by decide) (by decide +kernel) (by kernel_rfl!))) ?_
  ((simp only [cut_st, part_st, List.drop_succ_cons, List.drop_zero, List.take_succ_cons, List.take_zero, Nat.reduceSub]))
  refine Go.quo (v := st [97, 59]) (b := 1) (i := 0) (j := 1) (li := 1) (b2 := 5) (i2 := 2) (j2 := 4) (li2 := 1) (by ((simp only [cut_st, st_len, List.length_cons, List.drop_succ_cons, List.drop_zero, List.length_nil]; omega))) (by (exact finds_sym 40 (by decide) (by simp only [List.drop_succ_cons, List.drop_zero, List.length_cons, List.length_nil]; omega) (by kernel_rfl!))) (by decide) (by ((simp only [cut_st, st_len, List.length_cons, List.drop_succ_cons, List.drop_zero, List.length_nil]; omega))) (by (exact finds_sym 40 (by decide) (by simp only [List.drop_succ_cons, List.drop_zero, List.length_cons, List.length_nil]; omega) (by kernel_rfl!))) (by decide) (by ((simp only [cut_st, st_len, List.length_cons, List.drop_succ_cons, List.drop_zero, List.length_nil]; omega))) (by ((simp only [cut_st, part_st, List.drop_succ_cons, List.drop_zero, List.take_succ_cons, List.take_zero, Nat.reduceSub])); decide +kernel) ?_
  ((simp only [cut_st, part_st, List.drop_succ_cons, List.drop_zero, List.take_succ_cons, List.take_zero, Nat.reduceSub]))
  rw [List.append_assoc]
  exact h
theorem g5_1E {n : Nat} {pr : List KV} {R : List (List KV)} (h : Go n (st ([])) (pr ++ wd 5) R) : Go (n + 3) (st ([32, 97, 59, 32, 98, 61, 34, 97, 59, 34])) pr R := by
  rw [wd5] at h
  refine Go.non (b := 2) (i := 1) (j := 2) (li := 1) (by ((simp only [cut_st, st_len, List.length_cons, List.drop_succ_cons, List.drop_zero, List.length_nil]; omega))) (by (exact finds_sym 40 (by decide) (by simp only [List.drop_succ_cons, List.drop_zero, List.length_cons, List.length_nil]; omega) (by kernel_rfl!))) (by decide) (by ((simp only [cut_st, st_len, List.length_cons, List.drop_succ_cons, List.drop_zero, List.length_nil]; omega))) (by (first | exact fails_now 1 (by decide) (by simp only [List.drop_succ_cons, List.drop_zero, List.length_cons, List.length_nil]; omega) (by kernel_rfl!) | exact fails_sym (pc := 5) (p := 0) 4 (by decide) (by simp only [List.drop_succ_cons, List.drop_zero, List.length_cons, List.length_nil]; omega) (by decide) (by decide +kernel) (by kernel_rfl!) | exact fails_sym (pc := 5) (p := 0) 5 (by decide) (by simp only [List.drop_succ_cons, List.drop_zero, List.length_cons, List.length_nil]; omega) (by decide) (by decide +kernel) (by kernel_rfl!) | exact fails_sym (pc := 5) (p := 0) 7 (by decide) (by simp only [List.drop_succ_cons, List.drop_zero, List.length_cons, List.length_nil]; omega) (by decide) (by decide +kernel) (by kernel_rfl!) | exact fails_sym (pc := 5) (p := 2) 1 (by decide) (by simp only [List.drop_succ_cons, List.drop_zero, List.length_cons, List.length_nil]; omega) (by decide) (by decide +kernel) (by kernel_rfl!))) (by (first | exact fails_now 1 (by decide) (by simp only [List.drop_succ_cons, List.drop_zero, List.length_cons, List.length_nil]; omega) (by kernel_rfl!) | exact fails_sym (pc := 5) (p := 0) 4 (by decide) (by simp only [List.drop_succ_cons, List.drop_zero, List.length_cons, List.length_nil]; omega) (by decide) (by decide +kernel) (by kernel_rfl!) | exact fails_sym (pc := 5) (p := 0) 5 (by decide) (by simp only [List.drop_succ_cons, List.drop_zero, List.length_cons, List.length_nil]; omega) (by decide) (by decide +kernel) (by kernel_rfl!) | exact fails_sym (pc := 5) (p := 0) 7 (by decide) (by simp only [List.drop_succ_cons, List.drop_zero, List.length_cons, List.length_nil]; omega) (by decide) (by decide +kernel) (by kernel_rfl!) | exact fails_sym (pc := 5) (p := 2) 1 (by decide) (by simp only [List.drop_succ_cons, List.drop_zero, List.length_cons, List.length_nil]; omega) (by decide) (by decide +kernel) (by kernel_rfl!))) ?_
  ((simp only [cut_st, part_st, List.drop_succ_cons, List.drop_zero, List.take_succ_cons, List.take_zero, Nat.reduceSub]))
  show Go (n + 2) (st ([59, 32, 98, 61, 34, 97, 59, 34])) _ R
  refine Go.jnk (b := 2) (li := -1) (by ((simp only [cut_st, st_len, List.length_cons, List.drop_succ_cons, List.drop_zero, List.length_nil]; omega))) (by (first | exact fails_now 1 (by decide) (by simp only [List.drop_succ_cons, List.drop_zero, List.length_cons, List.length_nil]; omega) (by kernel_rfl!) | exact fails_sym (pc := 5) (p := 0) 4 (by decide) (by simp only [List.drop_succ_cons, List.drop_zero, List.length_cons, List.length_nil]; omega) (by decide) (by decide +kernel) (by kernel_rfl!) | exact fails_sym (pc := 5) (p := 0) 5 (by decide) (by simp only [List.drop_succ_cons, List.drop_zero, List.length_cons, List.length_nil]; omega) (by decide) (by decide +kernel) (by kernel_rfl!) | exact fails_sym (pc := 5) (p := 0) 7 (by decide) (by simp only [List.drop_succ_cons, List.drop_zero, List.length_cons, List.length_nil]; omega) (by decide) (by decide +kernel) (by kernel_rfl!) | exact fails_sym (pc := 5) (p := 2) 1 (by decide) (by simp only [List.drop_succ_cons, List.drop_zero, List.length_cons, List.length_nil]; omega) (by decide) (by decide +kernel) (by kernel_rfl!))) (lstrip_same _ 59 _ rfl (by decide +kernel)) (starts_other _ _ (by decide)) (by (exact finds_sym 40 (by decide) (by simp only [List.drop_succ_cons, List.drop_zero, List.length_cons, List.length_nil]; omega) (by kernel_rfl!))) (by decide) (by ((simp only [cut_st, st_len, List.length_cons, List.drop_succ_cons, List.drop_zero, List.length_nil]; omega))) (by (first | exact fails_now 1 (by decide) (by simp only [List.drop_succ_cons, List.drop_zero, List.length_cons, List.length_nil]; omega) (by kernel_rfl!) | exact fails_sym (pc := 5) (p := 0) 4 (by decide) (by simp only [List.drop_succ_cons, List.drop_zero, List.length_cons, List.length_nil]; omega) (by decide) (by decide +kernel) (by kernel_rfl!) | exact fails_sym (pc := 5) (p := 0) 5 (by decide) (by simp only [List.drop_succ_cons, List.drop_zero, List.length_cons, List.length_nil]; omega) (by decide) (by decide +kernel) (by kernel_rfl!) | exact fails_sym (pc := 5) (p := 0) 7 (by decide) (by simp only [List.drop_succ_cons, List.drop_zero, List.length_cons, List.length_nil]; omega) (by decide) (by decide +kernel) (by kernel_rfl!) | exact fails_sym (pc := 5) (p := 2) 1 (by decide) (by simp only [List.drop_succ_cons, List.drop_zero, List.length_cons, List.length_nil]; omega) (by decide) (by decide +kernel) (by kernel_rfl!))) ?_
  ((simp only [cut_st, part_st, List.drop_succ_cons, List.drop_zero, List.take_succ_cons, List.take_zero, Nat.reduceSub]))
  refine Go.quo (v := st [97, 59]) (b := 1) (i := 0) (j := 1) (li := 1) (b2 := 5) (i2 := 2) (j2 := 4) (li2 := 1) (by ((simp only [cut_st, st_len, List.length_cons, List.drop_succ_cons, List.drop_zero, List.length_nil]; omega))) (by (exact finds_sym 40 (by decide) (by simp only [List.drop_succ_cons, List.drop_zero, List.length_cons, List.length_nil]; omega) (by kernel_rfl!))) (by decide) (by ((simp only [cut_st, st_len, List.length_cons, List.drop_succ_cons, List.drop_zero, List.length_nil]; omega))) (by (exact finds_sym 40 (by decide) (by simp only [List.drop_succ_cons, List.drop_zero, List.length_cons, List.length_nil]; omega) (by kernel_rfl!))) (by decide) (by ((simp only [cut_st, st_len, List.length_cons, List.drop_succ_cons, List.drop_zero, List.length_nil]; omega))) (by ((simp only [cut_st, part_st, List.drop_succ_cons, List.drop_zero, List.take_succ_cons, List.take_zero, Nat.reduceSub])); decide +kernel) ?_
  ((simp only [cut_st, part_st, List.drop_succ_cons, List.drop_zero, List.take_succ_cons, List.take_zero, Nat.reduceSub]))
  rw [List.append_assoc]
  exact h
theorem g5_1C {tl : List Nat} (ht : tl.length ≤ 900) {n : Nat} {pr : List KV} {R : List (List KV)} (h : Go n (st (44 :: 32 :: 97 :: tl)) (pr ++ wd 5) R) : Go (n + 3) (st (32 :: 97 :: 59 :: 32 :: 98 :: 61 :: 34 :: 97 :: 59 :: 34 :: 44 :: 32 :: 97 :: tl)) pr R := by
  rw [wd5] at h
  refine Go.non (b := 2) (i := 1) (j := 2) (li := 1) (by ((simp only [cut_st, st_len, List.length_cons, List.drop_succ_cons, List.drop_zero, List.length_nil]; omega))) (by (exact finds_sym 40 (by decide) (by simp only [List.drop_succ_cons, List.drop_zero, List.length_cons, List.length_nil]; omega) (by kernel_rfl!))) (by decide) (by ((simp only [cut_st, st_len, List.length_cons, List.drop_succ_cons, List.drop_zero, List.length_nil]; omega))) (by (first | exact fails_now 1 (by decide) (by simp only [List.drop_succ_cons, List.drop_zero, List.length_cons, List.length_nil]; omega) (by kernel_rfl!) | exact fails_sym (pc := 5) (p := 0) 4 (by decide) (by simp only [List.drop_succ_cons, List.drop_zero, List.length_cons, List.length_nil]; omega) (by decide) (by decide +kernel) (by kernel_rfl!) | exact fails_sym (pc := 5) (p := 0) 5 (by decide) (by simp only [List.drop_succ_cons, List.drop_zero, List.length_cons, List.length_nil]; omega) (by decide) (by decide +kernel) (by kernel_rfl!) | exact fails_sym (pc := 5) (p := 0) 7 (by decide) (by simp only [List.drop_succ_cons, List.drop_zero, List.length_cons, List.length_nil]; omega) (by decide) (by decide +kernel) (by kernel_rfl!) | exact fails_sym (pc := 5) (p := 2) 1 (by decide) (by simp only [List.drop_succ_cons, List.drop_zero, List.length_cons, List.length_nil]; omega) (by decide) (by decide +kernel) (by kernel_rfl!))) (by (first | exact fails_now 1 (by decide) (by simp only [List.drop_succ_cons, List.drop_zero, List.length_cons, List.length_nil]; omega) (by kernel_rfl!) | exact fails_sym (pc := 5) (p := 0) 4 (by decide) (by simp only [List.drop_succ_cons, List.drop_zero, List.length_cons, List.length_nil]; omega) (by decide) (by decide +kernel) (by kernel_rfl!) | exact fails_sym (pc := 5) (p := 0) 5 (by decide) (by simp only [List.drop_succ_cons, List.drop_zero, List.length_cons, List.length_nil]; omega) (by decide) (by decide +kernel) (by kernel_rfl!) | exact fails_sym (pc := 5) (p := 0) 7 (by decide) (by simp only [List.drop_succ_cons, List.drop_zero, List.length_cons, List.length_nil]; omega) (by decide) (by decide +kernel) (by kernel_rfl!) | exact fails_sym (pc := 5) (p := 2) 1 (by decide) (by simp only [List.drop_succ_cons, List.drop_zero, List.length_cons, List.length_nil]; omega) (by decide) (by decide +kernel) (by kernel_rfl!))) ?_
  ((simp only [cut_st, part_st, List.drop_succ_cons, List.drop_zero, List.take_succ_cons, List.take_zero, Nat.reduceSub]))
  show Go (n + 2) (st (59 :: 32 :: 98 :: 61 :: 34 :: 97 :: 59 :: 34 :: 44 :: 32 :: 97 :: tl)) _ R
  refine Go.jnk (b := 2) (li := -1) (by ((simp only [cut_st, st_len, List.length_cons, List.drop_succ_cons, List.drop_zero, List.length_nil]; omega))) (by (first | exact fails_now 1 (by decide) (by simp only [List.drop_succ_cons, List.drop_zero, List.length_cons, List.length_nil]; omega) (by kernel_rfl!) | exact fails_sym (pc := 5) (p := 0) 4 (by decide) (by simp only [List.drop_succ_cons, List.drop_zero, List.length_cons, List.length_nil]; omega) (by decide) (by decide +kernel) (by kernel_rfl!) | exact fails_sym (pc := 5) (p := 0) 5 (by decide) (by simp only [List.drop_succ_cons, List.drop_zero, List.length_cons, List.length_nil]; omega) (by decide) (by decide +kernel) (by kernel_rfl!) | exact fails_sym (pc := 5) (p := 0) 7 (by decide) (by simp only [List.drop_succ_cons, List.drop_zero, List.length_cons, List.length_nil]; omega) (by decide) (by decide +kernel) (by kernel_rfl!) | exact fails_sym (pc := 5) (p := 2) 1 (by decide) (by simp only [List.drop_succ_cons, List.drop_zero, List.length_cons, List.length_nil]; omega) (by decide) (by decide +kernel) (by kernel_rfl!))) (lstrip_same _ 59 _ rfl (by decide +kernel)) (starts_other _ _ (by decide)) (by (exact finds_sym 40 (by decide) (by simp only [List.drop_succ_cons, List.drop_zero, List.length_cons, List.length_nil]; omega) (by kernel_rfl!))) (by decide) (by ((simp only [cut_st, st_len, List.length_cons, List.drop_succ_cons, List.drop_zero, List.length_nil]; omega))) (by (first | exact fails_now 1 (by decide) (by simp only [List.drop_succ_cons, List.drop_zero, List.length_cons, List.length_nil]; omega) (by kernel_rfl!) | exact fails_sym (pc := 5) (p := 0) 4 (by decide) (by simp only [List.drop_succ_cons, List.drop_zero, List.length_cons, List.length_nil]; omega) (by decide) (by decide +kernel) (by kernel_rfl!) | exact fails_sym (pc := 5) (p := 0) 5 (by decide) (by simp only [List.drop_succ_cons, List.drop_zero, List.length_cons, List.length_nil]; omega) (by decide) (by decide +kernel) (by kernel_rfl!) | exact fails_sym (pc := 5) (p := 0) 7 (by decide) (by simp only [List.drop_succ_cons, List.drop_zero, List.length_cons, List.length_nil]; omega) (by decide) (by decide +kernel) (by kernel_rfl!) | exact fails_sym (pc := 5) (p := 2) 1 (by decide) (by simp only [List.drop_succ_cons, List.drop_zero, List.length_cons, List.length_nil]; omega) (by decide) (by decide +kernel) (by kernel_rfl!))) ?_
  ((simp only [cut_st, part_st, List.drop_succ_cons, List.drop_zero, List.take_succ_cons, List.take_zero, Nat.reduceSub]))
  refine Go.quo (v := st [97, 59]) (b := 1) (i := 0) (j := 1) (li := 1) (b2 := 5) (i2 := 2) (j2 := 4) (li2 := 1) (by ((simp only [cut_st, st_len, List.length_cons, List.drop_succ_cons, List.drop_zero, List.length_nil]; omega))) (by (exact finds_sym 40 (by decide) (by simp only [List.drop_succ_cons, List.drop_zero, List.length_cons, List.length_nil]; omega) (by kernel_rfl!))) (by decide) (by ((simp only [cut_st, st_len, List.length_cons, List.drop_succ_cons, List.drop_zero, List.length_nil]; omega))) (by (exact finds_sym 40 (by decide) (by simp only [List.drop_succ_cons, List.drop_zero, List.length_cons, List.length_nil]; omega) (by kernel_rfl!))) (by decide) (by ((simp only [cut_st, st_len, List.length_cons, List.drop_succ_cons, List.drop_zero, List.length_nil]; omega))) (by ((simp only [cut_st, part_st, List.drop_succ_cons, List.drop_zero, List.take_succ_cons, List.take_zero, Nat.reduceSub])); decide +kernel) ?_
  ((simp only [cut_st, part_st, List.drop_succ_cons, List.drop_zero, List.take_succ_cons, List.take_zero, Nat.reduceSub]))
  rw [List.append_assoc]
  exact h
theorem word_go : ∀ (i : Nat) {sp tail : List Nat} (hsp : sp = [] ∨ sp = [32]) (ht : tail = [] ∨ ∃ tl, tail = 44 :: 32 :: 97 :: tl ∧ tl.length ≤ 900) {n : Nat} {pr : List KV} {R : List (List KV)} (h : Go n (st tail) (pr ++ wd i) R), ∃ n', n' ≤ n + 3 ∧ Go n' (st (sp ++ (T i ++ tail))) pr R
  | 0, sp, tail, hsp, ht, n, pr, R, h => by
    rcases hsp with rfl | rfl <;> rcases ht with rfl | ⟨tl, rfl, ht⟩
    · exact ⟨_, by omega, g0_0E h⟩
    · exact ⟨_, by omega, g0_0C ht h⟩
    · exact ⟨_, by omega, g0_1E h⟩
    · exact ⟨_, by omega, g0_1C ht h⟩
  | 1, sp, tail, hsp, ht, n, pr, R, h => by
    rcases hsp with rfl | rfl <;> rcases ht with rfl | ⟨tl, rfl, ht⟩
    · exact ⟨_, by omega, g1_0E h⟩
    · exact ⟨_, by omega, g1_0C ht h⟩
    · exact ⟨_, by omega, g1_1E h⟩
    · exact ⟨_, by omega, g1_1C ht h⟩
  | 2, sp, tail, hsp, ht, n, pr, R, h => by
    rcases hsp with rfl | rfl <;> rcases ht with rfl | ⟨tl, rfl, ht⟩
    · exact ⟨_, by omega, g2_0E h⟩
    · exact ⟨_, by omega, g2_0C ht h⟩
    · exact ⟨_, by omega, g2_1E h⟩
    · exact ⟨_, by omega, g2_1C ht h⟩
  | 3, sp, tail, hsp, ht, n, pr, R, h => by
    rcases hsp with rfl | rfl <;> rcases ht with rfl | ⟨tl, rfl, ht⟩
    · exact ⟨_, by omega, g3_0E h⟩
    · exact ⟨_, by omega, g3_0C ht h⟩
    · exact ⟨_, by omega, g3_1E h⟩
    · exact ⟨_, by omega, g3_1C ht h⟩
  | 4, sp, tail, hsp, ht, n, pr, R, h => by
    rcases hsp with rfl | rfl <;> rcases ht with rfl | ⟨tl, rfl, ht⟩
    · exact ⟨_, by omega, g4_0E h⟩
    · exact ⟨_, by omega, g4_0C ht h⟩
    · exact ⟨_, by omega, g4_1E h⟩
    · exact ⟨_, by omega, g4_1C ht h⟩
  | k + 5, sp, tail, hsp, ht, n, pr, R, h => by
    replace h : Go n (st tail) (pr ++ wd 5) R := h
    rcases hsp with rfl | rfl <;> rcases ht with rfl | ⟨tl, rfl, ht⟩
    · exact ⟨_, by omega, g5_0E h⟩
    · exact ⟨_, by omega, g5_0C ht h⟩
    · exact ⟨_, by omega, g5_1E h⟩
    · exact ⟨_, by omega, g5_1C ht h⟩
def J : List Nat → List Nat
  | [] => []
  | [i] => T i
  | i :: r => T i ++ 44 :: 32 :: J r
theorem T_head : ∀ i, ∃ r, T i = 97 :: r ∧ r.length ≤ 8
  | 0 => ⟨_, rfl, by decide⟩
  | 1 => ⟨_, rfl, by decide⟩
  | 2 => ⟨_, rfl, by decide⟩
  | 3 => ⟨_, rfl, by decide⟩
  | 4 => ⟨_, rfl, by decide⟩
  | _ + 5 => ⟨_, rfl, by decide⟩
theorem J_len : ∀ is, (J is).length ≤ 11 * is.length
  | [] => by simp [J]
  | [i] => by
    obtain ⟨r, h, hl⟩ := T_head i
    simp only [J, h, List.length_cons, List.length_nil]; omega
  | i :: j :: r => by
    obtain ⟨q, h, hl⟩ := T_head i
    have := J_len (j :: r)
    simp only [J, h, List.length_cons, List.length_append] at this ⊢; omega
theorem J_head (j : Nat) (r : List Nat) : ∃ q, J (j :: r) = 97 :: q := by
  obtain ⟨q, h, hl⟩ := T_head j
  cases r with
  | nil => exact ⟨q, h⟩
  | cons k r => exact ⟨q ++ 44 :: 32 :: J (k :: r), by simp only [J, h, List.cons_append]⟩
theorem wd_ne : ∀ i, (wd i).isEmpty = false
  | 0 => rfl
  | 1 => rfl
  | 2 => rfl
  | 3 => rfl
  | 4 => rfl
  | _ + 5 => rfl
theorem go_all : ∀ (is : List Nat) {sp : List Nat} (hsp : sp = [] ∨ sp = [32]), is ≠ [] → is.length ≤ 63 → ∃ n, n ≤ 4 * is.length ∧ Go n (st (sp ++ J is)) [] (is.map wd)
  | [], _, _, h, _ => absurd rfl h
  | [i], sp, hsp, _, _ => by
    have h0 : Go 0 (st []) ([] ++ wd i) [wd i] := by
      have := Go.fin (pr := wd i)
      rw [wd_ne i] at this
      exact this
    obtain ⟨n, hn, h⟩ := word_go i hsp (.inl rfl) h0
    rw [List.append_nil] at h
    exact ⟨n, by simp only [List.length_cons, List.length_nil]; omega, h⟩
  | i :: j :: r, sp, hsp, _, hl => by
    obtain ⟨n, hn, h⟩ := go_all (j :: r) (sp := [32]) (.inr rfl) (by simp) (by simp only [List.length_cons] at hl ⊢; omega)
    obtain ⟨q, hq⟩ := J_head j r
    have hlen := J_len (j :: r)
    rw [hq] at h hlen
    simp only [List.length_cons] at hl hlen hn
    have h1 : Go (n + 1) (st (44 :: 32 :: 97 :: q)) ([] ++ wd i) ((i :: j :: r).map wd) := by
      refine Go.com (by ((simp only [cut_st, st_len, List.length_cons, List.drop_succ_cons, List.drop_zero, List.length_nil]; omega))) (by (first | exact fails_now 1 (by decide) (by simp only [List.drop_succ_cons, List.drop_zero, List.length_cons, List.length_nil]; omega) (by kernel_rfl!) | exact fails_sym (pc := 5) (p := 0) 4 (by decide) (by simp only [List.drop_succ_cons, List.drop_zero, List.length_cons, List.length_nil]; omega) (by decide) (by decide +kernel) (by kernel_rfl!) | exact fails_sym (pc := 5) (p := 0) 5 (by decide) (by simp only [List.drop_succ_cons, List.drop_zero, List.length_cons, List.length_nil]; omega) (by decide) (by decide +kernel) (by kernel_rfl!) | exact fails_sym (pc := 5) (p := 0) 7 (by decide) (by simp only [List.drop_succ_cons, List.drop_zero, List.length_cons, List.length_nil]; omega) (by decide) (by decide +kernel) (by kernel_rfl!) | exact fails_sym (pc := 5) (p := 2) 1 (by decide) (by simp only [List.drop_succ_cons, List.drop_zero, List.length_cons, List.length_nil]; omega) (by decide) (by decide +kernel) (by kernel_rfl!))) (lstrip_same _ 44 _ rfl (by decide +kernel)) (starts_comma _) (fun e => ?_) h
      have := wd_ne i
      rw [show wd i = [] from e] at this
      cases this
    obtain ⟨n', hn', h'⟩ := word_go i hsp (.inr ⟨q, rfl, by omega⟩) h1
    refine ⟨n', by simp only [List.length_cons]; omega, ?_⟩
    show Go n' (st (sp ++ (T i ++ 44 :: 32 :: J (j :: r)))) [] _
    rw [hq]
    exact h'
theorem fold_J (g : Str) (hg : g = st [44, 32]) : ∀ (is : List Nat) (a : Array Nat), (is.map txt).foldl (fun acc p => acc ++ g.cps ++ p.cps) a = a ++ (is.flatMap fun i => 44 :: 32 :: T i).toArray
  | [], a => by simp
  | i :: r, a => by
    rw [List.map_cons, List.foldl_cons, fold_J g hg r, T_txt, hg, List.flatMap_cons]
    apply Array.ext'
    simp
theorem J_flat : ∀ (i : Nat) (r : List Nat), J (i :: r) = T i ++ r.flatMap fun i => 44 :: 32 :: T i
  | i, [] => by simp [J]
  | i, j :: r => by
    show T i ++ 44 :: 32 :: J (j :: r) = _
    rw [J_flat j r, List.flatMap_cons]
    rfl
theorem glued_J (is : List Nat) : glued ", " (is.map txt) = st (J is) := by
  cases is with
  | nil => decide +kernel
  | cons i r =>
    show (⟨(r.map txt).foldl _ (txt i).cps⟩ : Str) = _
    rw [fold_J ", " (by decide +kernel), J_flat, T_txt]
    congr 1
    apply Array.ext'
    simp
theorem go_text (is : List Nat) (h0 : is ≠ []) (hl : is.length ≤ 63) : ∃ n, n ≤ 4 * is.length ∧ Go n (glued ", " (is.map txt)) [] (is.map wd) := by
  rw [glued_J]
  exact go_all is (.inl rfl) h0 hl
end

-- part Kq
section
abbrev sq : Str := (Str.ofString "split_header_words" ++ (".<locals>." : String)) ++ ("<lambda>" : String)
theorem part_len (x : Str) (i j : Nat) : (part x i j).length ≤ x.length := by
  show (x.cps.extract i j).size ≤ x.cps.size
  rw [Array.size_extract]; omega

section
variable {prog : Program} {w : World} {A : Around} {E : Value → Shared → Prop} {s : Shared} {h₀ : Heap} {L : Addr} {m : Str → Option Value} {news : List (Addr × Obj)} {P : Params}
theorem search_no_K {p : Addr} {c : Array Nat} {x : Str} {t : Tok} {Q : Value → Shared → Prop} (F : Fr h₀ L s.heap m) (P₀ : PatAt h₀ p c 1) (hx : x.length ≤ 2 ^ 19) (hf : fails (sr c x)) (h : Q .none s) : wpAny (model prog w) A (call (.builtin "re.Pattern.search") [.ref p, .str x t]) Q E s := by
  obtain ⟨k, hk, ho⟩ := hf
  exact search_no (pat_in F P₀) (by have : x.cps.size ≤ 2 ^ 19 := hx; omega) hk ho h
theorem search_yes_K {p : Addr} {c : Array Nat} {x : Str} {t : Tok} {b i j : Nat} {li : Int} {Q : Value → Shared → Prop} (F : Fr h₀ L s.heap m) (N : News h₀ L s.heap news) (P₀ : PatAt h₀ p c 1) (hx : x.length ≤ 2 ^ 19) (hf : finds (sr c x) (hit b i j li)) (hij : i ≤ j)
    (h : ∀ mt tp h', Fr h₀ L h' m → News h₀ L h' ((mt, mtObj (.str x t) (.ref p) x.cps.size li tp) :: (tp, spObj [((0 : Nat) : Int), (b : Int), (i : Int), (j : Int)]) :: news) → (∀ p ∈ news, p.1 < tp) → tp < mt → Q (.ref mt) { s with heap := h' }) :
    wpAny (model prog w) A (call (.builtin "re.Pattern.search") [.ref p, .str x t]) Q E s := by
  obtain ⟨k, hk, ho⟩ := hf
  refine search_yes1 (pat_in F P₀) (by have : x.cps.size ≤ 2 ^ 19 := hx; omega) hk ho hij ?_
  have F₂ := F.push (spObj [((0 : Nat) : Int), (b : Int), (i : Int), (j : Int)])
  have N₂ := N.push F (spObj [((0 : Nat) : Int), (b : Int), (i : Int), (j : Int)])
  have F₃ := F₂.push (mtObj (.str x t) (.ref p) x.cps.size li s.heap.objs.size)
  have N₃ := N₂.push F₂ (mtObj (.str x t) (.ref p) x.cps.size li s.heap.objs.size)
  rw [Heap.size_push] at N₃
  exact h _ _ _ F₃ N₃ (fun p hp => Heap.lt_size (N p hp).1) (Nat.lt_succ_self _)
end

theorem truthy_ne {prog : Program} {w : World} {A : Around} {E : Value → Shared → Prop} {s : Shared} {x : Str} {t : Tok} {Q : Bool → Shared → Prop} (h0 : x.length ≠ 0) (hl : x.length ≤ 1000) (h : Q true { s with toks := s.toks + 1 + 1 }) : wpAny (model prog w) A (truthy (.str x t)) Q E s := by
  refine P.truthy_str (by omega) ?_
  have : ((x.length : Int) != 0) = true := by simp; omega
  rw [this]; exact h
/-- the split loop's addresses stand apart -/
def Sep (I Rs Pr : Addr) (rest : List (Addr × Obj)) : Prop :=
  (∀ q ∈ rest, q.1 ≠ 65 ∧ q.1 ≠ Rs ∧ q.1 ≠ Pr ∧ q.1 ≠ I) ∧ Rs ≠ 65 ∧ Pr ≠ 65 ∧ Pr ≠ Rs ∧ Pr ≠ I ∧ Rs ≠ I ∧ I ≠ 65
theorem Sep.cons {I Rs Pr D : Addr} {o : Obj} {rest : List (Addr × Obj)} (S : Sep I Rs Pr rest) (h1 : D ≠ 65) (h2 : D ≠ Rs) (h3 : D ≠ Pr) (h4 : D ≠ I) : Sep I Rs Pr ((D, o) :: rest) :=
  ⟨fun q hq => by rcases List.mem_cons.mp hq with rfl | hq; exact ⟨h1, h2, h3, h4⟩; exact S.1 q hq, S.2⟩
/-- split's while -/
def JW (I : Addr) (oI : Obj) (news0 : List (Addr × Obj)) (ws : List (List KV)) (n : Nat) (m₁ : Str → Option Value) (news₁ : List (Addr × Obj)) : Prop :=
  ∃ x tx Pr prs eP pr Rs res eR rw R ps rest, m₁ "text" = some (.str x tx) ∧ m₁ "pairs" = some (.ref Pr) ∧ m₁ "result" = some (.ref Rs) ∧
    news₁ = (Pr, lstO prs eP) :: (I, oI) :: (Rs, lstO res eR) :: (65, tabObj ps) :: rest ∧ PairsIn rest prs pr ∧ WordsIn rest res rw ∧ Go n x pr R ∧ rw ++ R = ws ∧ TabOk 26 49 sq (fun _ => True) rest ps ∧ (∀ q ∈ news0, q ∈ rest) ∧
    Sep I Rs Pr rest ∧ x.length ≤ 1000 ∧ prs.length + n ≤ 2 ^ 19 ∧ res.length + n ≤ 2 ^ 19

theorem PairsIn.snoc {n : List (Addr × Obj)} {v : Value} {p : KV} (h2 : PairIn n v p) : ∀ {vs : List Value} {ps : List KV}, PairsIn n vs ps → PairsIn n (vs ++ [v]) (ps ++ [p])
  | [], [], _ => ⟨h2, trivial⟩
  | _ :: _, _ :: _, ⟨a, r⟩ => ⟨a, PairsIn.snoc h2 r⟩
theorem WordsIn.snoc {n : List (Addr × Obj)} {v : Value} {p : List KV} (h2 : WordIn n v p) : ∀ {vs : List Value} {ps : List (List KV)}, WordsIn n vs ps → WordsIn n (vs ++ [v]) (ps ++ [p])
  | [], [], _ => ⟨h2, trivial⟩
  | _ :: _, _ :: _, ⟨a, r⟩ => ⟨a, WordsIn.snoc h2 r⟩

/-- a turn that adds a pair -/
theorem ws_pair {g h : Heap} {L Pr Rs D I : Addr} {oI : Obj} {m' : Str → Option Value} {s : Shared} {tk n : Nat} {prs res : List Value} {eP eR : Nat} {pr : List KV} {rw R ws : List (List KV)} {ps3 : Array Value} {rest rest3 news0 : List (Addr × Obj)} {x' k : Str} {t' tk1 : Tok} {u : Value} {vo : Option Str}
    (F : Fr g L h m') (N : News g L h ((Pr, lstO (prs ++ [.ref D]) (eP + 1)) :: (I, oI) :: (Rs, lstO res eR) :: (65, tabObj ps3) :: (D, tupO [.str k tk1, u]) :: rest3))
    (h1 : m' "text" = some (.str x' t')) (h2 : m' "pairs" = some (.ref Pr)) (h3 : m' "result" = some (.ref Rs)) (hP : PairsIn rest prs pr) (hW : WordsIn rest res rw) (hv : ValIs u vo) (hG : Go n x' (pr ++ [(k, vo)]) R) (hws : rw ++ R = ws) (hT : TabOk 26 49 sq (fun _ => True) rest3 ps3)
    (hn : ∀ q ∈ news0, q ∈ rest) (hs : ∀ q ∈ rest, q ∈ rest3) (hsep : Sep I Rs Pr ((D, tupO [.str k tk1, u]) :: rest3)) (hx : x'.length ≤ 1000) (hb1 : prs.length + (n + 1) ≤ 2 ^ 19) (hb2 : res.length + (n + 1) ≤ 2 ^ 19) :
    WhileStep g L s (JW I oI news0 ws) (n + 1) .next { s with heap := h, toks := tk } := by
  refine ⟨rfl, h, tk, m', _, n, rfl, F, N, Nat.lt_succ_self n, x', t', Pr, prs ++ [.ref D], eP + 1, pr ++ [(k, vo)], Rs, res, eR, rw, R, ps3, (D, tupO [.str k tk1, u]) :: rest3, h1, h2, h3, rfl, ?_, ?_, hG, hws, hT.mono fun q hq => .tail _ hq, fun q hq => .tail _ (hs q (hn q hq)), hsep, hx, ?_, ?_⟩
  · exact PairsIn.snoc (p := (k, vo)) ⟨D, tk1, u, rfl, .head _, hv⟩ (hP.mono fun q hq => List.mem_cons_of_mem _ (hs q hq))
  · exact hW.mono fun q hq => List.mem_cons_of_mem _ (hs q hq)
  · rw [List.length_append]; simp only [List.length_singleton]; omega
  · omega
/-- a turn that closes a list -/
theorem ws_com {g h : Heap} {L Pr Rs P3 I : Addr} {oI : Obj} {m' : Str → Option Value} {s : Shared} {tk n : Nat} {prs res : List Value} {eP eR : Nat} {pr : List KV} {rw R ws : List (List KV)} {ps : Array Value} {rest news0 : List (Addr × Obj)} {x' : Str} {t' : Tok}
    (F : Fr g L h m') (N : News g L h ((P3, lstO [] 0) :: (Rs, lstO (res ++ [.ref Pr]) (eR + 1)) :: (Pr, lstO prs eP) :: (65, tabObj ps) :: (I, oI) :: rest))
    (h1 : m' "text" = some (.str x' t')) (h2 : m' "pairs" = some (.ref P3)) (h3 : m' "result" = some (.ref Rs)) (hP : PairsIn rest prs pr) (hW : WordsIn rest res rw) (hG : Go n x' [] R) (hws : rw ++ (pr :: R) = ws) (hT : TabOk 26 49 sq (fun _ => True) rest ps)
    (hn : ∀ q ∈ news0, q ∈ rest) (hsep : Sep I Rs Pr rest) (hlt3 : ∀ q ∈ (Rs, lstO (res ++ [.ref Pr]) (eR + 1)) :: (Pr, lstO prs eP) :: (65, tabObj ps) :: (I, oI) :: rest, q.1 < P3) (hx : x'.length ≤ 1000) (hb1 : prs.length + (n + 1) ≤ 2 ^ 19) (hb2 : res.length + (n + 1) ≤ 2 ^ 19) :
    WhileStep g L s (JW I oI news0 ws) (n + 1) .next { s with heap := h, toks := tk } := by
  obtain ⟨q0, q1, q2, q3, q4, q5, q6⟩ := hsep
  refine ⟨rfl, h, tk, m', (P3, lstO [] 0) :: (I, oI) :: (Rs, lstO (res ++ [.ref Pr]) (eR + 1)) :: (65, tabObj ps) :: (Pr, lstO prs eP) :: rest, n, rfl, F, fun q hq => N q ?_, Nat.lt_succ_self n, x', t', P3, [], 0, [], Rs, res ++ [.ref Pr], eR + 1, rw ++ [pr], R, ps, (Pr, lstO prs eP) :: rest, h1, h2, h3, rfl, trivial, ?_, hG, by rw [← hws]; simp, hT.mono fun q hq => .tail _ hq, fun q hq => .tail _ (hn q hq), ⟨?_, q1, ?_, ?_, ?_, q5, q6⟩, hx, ?_, ?_⟩
  · simp only [List.mem_cons] at hq ⊢
    rcases hq with h | h | h | h | h | h <;> simp [h]
  · exact WordsIn.snoc (p := pr) ⟨Pr, prs, eP, rfl, .head _, hP.mono fun q hq => List.mem_cons_of_mem _ hq⟩ (hW.mono fun q hq => List.mem_cons_of_mem _ hq)
  · intro q hq
    have hl := hlt3 q (.tail _ (by rcases List.mem_cons.mp hq with rfl | hq; exact .head _; exact .tail _ (.tail _ (.tail _ hq))))
    rcases List.mem_cons.mp hq with rfl | hq
    · exact ⟨q2, q3, Nat.ne_of_lt hl, q4⟩
    · exact ⟨(q0 q hq).1, (q0 q hq).2.1, Nat.ne_of_lt hl, (q0 q hq).2.2.2⟩
  · exact Nat.ne_of_gt (hlt3 _ (.tail _ (.tail _ (.head _))))
  · exact Nat.ne_of_gt (hlt3 _ (.head _))
  · exact Nat.ne_of_gt (hlt3 _ (.tail _ (.tail _ (.tail _ (.head _)))))
  · simp only [List.length_nil]; omega
  · rw [List.length_append]; simp only [List.length_singleton]; omega
/-- a turn that only cuts the text -/
theorem ws_cut {g h : Heap} {L Pr Rs I : Addr} {oI : Obj} {m' : Str → Option Value} {s : Shared} {tk n : Nat} {prs res : List Value} {eP eR : Nat} {pr : List KV} {rw R ws : List (List KV)} {ps : Array Value} {rest news0 : List (Addr × Obj)} {x' : Str} {t' : Tok}
    (F : Fr g L h m') (N : News g L h ((Pr, lstO prs eP) :: (I, oI) :: (Rs, lstO res eR) :: (65, tabObj ps) :: rest))
    (h1 : m' "text" = some (.str x' t')) (h2 : m' "pairs" = some (.ref Pr)) (h3 : m' "result" = some (.ref Rs)) (hP : PairsIn rest prs pr) (hW : WordsIn rest res rw) (hG : Go n x' pr R) (hws : rw ++ R = ws) (hT : TabOk 26 49 sq (fun _ => True) rest ps)
    (hn : ∀ q ∈ news0, q ∈ rest) (hsep : Sep I Rs Pr rest) (hx : x'.length ≤ 1000) (hb1 : prs.length + (n + 1) ≤ 2 ^ 19) (hb2 : res.length + (n + 1) ≤ 2 ^ 19) :
    WhileStep g L s (JW I oI news0 ws) (n + 1) .next { s with heap := h, toks := tk } :=
  ⟨rfl, h, tk, m', _, n, rfl, F, N, Nat.lt_succ_self n, x', t', Pr, prs, eP, pr, Rs, res, eR, rw, R, ps, rest, h1, h2, h3, rfl, hP, hW, hG, hws, hT, hn, hsep, hx, by omega, by omega⟩

/-- split's for -/
def JF (news : List (Addr × Obj)) (ws : List (List KV)) (i : Nat) (m₁ : Str → Option Value) (news₁ : List (Addr × Obj)) : Prop :=
  ∃ Rs res eR ps rest, m₁ "result" = some (.ref Rs) ∧ news₁ = (Rs, lstO res eR) :: (65, tabObj ps) :: rest ∧ WordsIn rest res (if i = 0 then [] else ws) ∧ TabOk 26 49 sq (fun _ => True) rest ps ∧ (∀ q ∈ news, q ∈ rest) ∧ (∀ q ∈ rest, q.1 ≠ 65 ∧ q.1 ≠ Rs) ∧ Rs ≠ 65 ∧ res.length ≤ 2 ^ 20 ∧ (i = 0 → res.length = 0)
/-- a turn of split's for ends -/
theorem tf_end {g h : Heap} {L Rs I l : Addr} {oI lo : Obj} {m' : Str → Option Value} {s : Shared} {tk : Nat} {res : List Value} {eR : Nat} {ws : List (List KV)} {ps : Array Value} {rest news : List (Addr × Obj)} {all : List (Addr × Obj)}
    (F : Fr g L h m') (N : News g L h all) (hin : ∀ q ∈ (Rs, lstO res eR) :: (65, tabObj ps) :: (I, oI) :: rest, q ∈ all) (h3 : m' "result" = some (.ref Rs)) (hW : WordsIn rest res ws) (hT : TabOk 26 49 sq (fun _ => True) rest ps)
    (hn : ∀ q ∈ (l, lo) :: news, q ∈ rest) (hsep : ∀ q ∈ rest, q.1 ≠ 65 ∧ q.1 ≠ Rs ∧ q.1 ≠ I) (s1 : Rs ≠ 65) (s2 : Rs ≠ I) (s3 : I ≠ 65) (hb : res.length ≤ 2 ^ 20) :
    TEnd g L (JF ((l, lo) :: news) ws 1) I oI l lo s { s with heap := h, toks := tk } := by
  refine ⟨h, tk, m', (Rs, lstO res eR) :: (65, tabObj ps) :: rest, rfl, F, fun q hq => N q (hin q ?_), ?_, .tail _ (.tail _ (hn _ (.head _))), Rs, res, eR, ps, rest, h3, rfl, hW, hT, hn, fun q hq => ⟨(hsep q hq).1, (hsep q hq).2.1⟩, s1, hb, fun h => by omega⟩
  · simp only [List.mem_cons] at hq ⊢
    rcases hq with h | h | h | h <;> simp [h]
  · intro q hq
    simp only [List.mem_cons] at hq
    rcases hq with rfl | rfl | hq
    · exact s2
    · exact s3.symm
    · exact (hsep q hq).2.2

theorem cut_ext (x : Str) (b : Nat) : (⟨x.cps.extract b x.cps.size⟩ : Str) = cut x b := by
  unfold cut
  congr 1
  apply Array.ext'
  simp
  try exact List.take_of_length_le (by simp)
section
variable {prog : Program} {w : World} {A : Around} {E : Value → Shared → Prop} {s : Shared} {h₀ : Heap} {L : Addr} {m : Str → Option Value} {news : List (Addr × Obj)} {P : Params}
theorem subn_K {x : Str} {t t0 : Tok} {b : Nat} {li : Int} {Q : Value → Shared → Prop} (F : Fr h₀ L s.heap m) (N : News h₀ L s.heap news) (P₀ : PatAt h₀ 36 junkC 0) (hx : x.length ≤ 1000) (h1 : finds (forSearch junkC x.cps 0 0 x.cps.size false) ⟨true, 0, b, [], -1, li⟩) (hb : b ≠ 0) (hb2 : b < x.length)
    (h2 : fails (forSearch junkC x.cps 0 b x.cps.size false))
    (h : ∀ tp tk ti h' tk', Fr h₀ L h' m → News h₀ L h' ((tp, tupO [.str (cut x b) tk, .int 1 ti]) :: news) → Q (.ref tp) { s with heap := h', toks := tk' }) :
    wpAny (model prog w) A (call (.builtin "re.Pattern.subn") [.ref 36, .str (Str.ofString "") t0, .str x t]) Q E s := by
  have hxs : x.cps.size ≤ 1000 := hx
  have hbs : b < x.cps.size := hb2
  obtain ⟨k, hk, ho⟩ := h1
  obtain ⟨k2, hk2, ho2⟩ := h2
  refine subn_lit P₀ F N (by decide +kernel) fun pl h₁ F₁ N₁ hlt => ?_
  have hne : ∀ q ∈ news, q.1 ≠ pl := fun q hq => Nat.ne_of_lt (hlt q hq)
  refine loop_lit (s := { s with heap := h₁ }) P₀ F₁ N₁ hne (by omega) hk ho (by simp) fun e' h₂ tk₂ F₂ N₂ => ?_
  have hb0 : (b == 0) = false := by simpa using hb
  rw [hb0]
  have hg : glued ⟨#[]⟩ [Str.ofString "", cut x b] = cut x b := by
    show (⟨((Str.ofString "").cps ++ #[] ++ (cut x b).cps)⟩ : Str) = cut x b
    have : (Str.ofString "").cps = #[] := by decide +kernel
    rw [this]; simp
  have hcl := cut_len x b
  refine loop_end (s := { s with heap := h₂, toks := tk₂ }) P₀ F₂ N₂ hne (by omega) hk2 ho2 (.inr ⟨_, _, rfl⟩) [Str.ofString "", cut x b] ?_ (by simp) ?_ ?_ ?_
  · rw [if_pos hbs, cut_ext]; rfl
  · have h0 : (Str.ofString "").length = 0 := by decide +kernel
    show (0 + (Str.ofString "").length + 0) + (cut x b).length + 0 ≤ 2 ^ 20
    omega
  · rw [hg]; omega
  · intro tk h' tk' F' N'
    intro tp ti h'' tk'' F'' N''
    rw [hg] at N''
    exact h tp tk ti h'' tk'' F'' N''
theorem newTup_K {vs : List Value} {Q : Value → Shared → Prop} (F : Fr h₀ L s.heap m) (N : News h₀ L s.heap news) (hsz : vs.length ≤ 100)
    (h : ∀ D h', Fr h₀ L h' m → News h₀ L h' ((D, tupO vs) :: news) → (∀ p ∈ news, p.1 < D) → Q (.ref D) { s with heap := h' }) : wpAny (model prog w) A (newTuple vs) Q E s :=
  newTuple_N F N (fun h' F' N' => h _ h' F' N' fun p hp => Heap.lt_size (N p hp).1) (by rw [sizeLine_eq]; omega)
theorem newLst_K {vs : List Value} {Q : Value → Shared → Prop} (F : Fr h₀ L s.heap m) (N : News h₀ L s.heap news) (hsz : vs.length ≤ 100)
    (h : ∀ D h', Fr h₀ L h' m → News h₀ L h' ((D, lstO vs 0) :: news) → (∀ p ∈ news, p.1 < D) → Q (.ref D) { s with heap := h' }) : wpAny (model prog w) A (newList vs) Q E s :=
  newList_N F N (fun h' F' N' => h _ h' F' N' fun p hp => Heap.lt_size (N p hp).1) (by rw [sizeLine_eq]; omega)
theorem lstrip_K {x : Str} {t : Tok} {Q : Value → Shared → Prop} (hx : x.length ≤ 1000) (e : Txt.lstrip x = x) (h : ∀ t' k, Q (.str x t') { s with toks := k }) : wpAny (model prog w) A (call (.builtin "str.lstrip") [.str x t]) Q E s :=
  SCL.lstrip (fun t' k _ => by rw [e]; exact h t' k) (by rw [sizeLine_eq]; omega)
theorem starts_K {x y : Str} {t u : Tok} {b : Bool} {Q : Value → Shared → Prop} (e : Txt.startswith x y = b) (h : Q (.bool b) s) : wpAny (model prog w) A (call (.builtin "str.startswith") [.str x t, .str y u]) Q E s :=
  SC.startswith (by rw [e]; exact h)
end
end

-- part Ks
section
theorem keep_cons {all keep : List (Addr × Obj)} {p : Addr × Obj} {pl : Addr} (hm : p ∈ all) (hne : p.1 ≠ pl) (h : ∀ q ∈ keep, q ∈ all ∧ q.1 ≠ pl) : ∀ q ∈ p :: keep, q ∈ all ∧ q.1 ≠ pl := by
  intro q hq
  rcases List.mem_cons.mp hq with rfl | hq
  · exact ⟨hm, hne⟩
  · exact h q hq
theorem in_cons {all keep : List (Addr × Obj)} {p : Addr × Obj} (hm : p ∈ all) (h : ∀ q ∈ keep, q ∈ all) : ∀ q ∈ p :: keep, q ∈ all := by
  intro q hq
  rcases List.mem_cons.mp hq with rfl | hq
  · exact hm
  · exact h q hq
theorem keep_rest {all keep : List (Addr × Obj)} {pl : Addr} (hm : ∀ q ∈ keep, q ∈ all) (hne : ∀ q ∈ keep, q.1 ≠ pl) : ∀ q ∈ keep, q ∈ all ∧ q.1 ≠ pl := fun q hq => ⟨hm q hq, hne q hq⟩
theorem PairsIn.nil {n : List (Addr × Obj)} : ∀ {ps : List KV}, PairsIn n [] ps → ps = []
  | [], _ => rfl
theorem PairsIn.cons_ne {n : List (Addr × Obj)} {v : Value} {vs : List Value} : ∀ {ps : List KV}, PairsIn n (v :: vs) ps → ps.isEmpty = false
  | _ :: _, _ => rfl

theorem sset_size (x y : Str) (h : (x, y) ∈ sset) : x.cps.size ≤ 100 ∧ y.length ≤ 1000 := by
  simp only [sset, List.mem_cons, List.not_mem_nil, or_false, Prod.mk.injEq] at h
  rcases h with ⟨rfl, rfl⟩ | ⟨rfl, rfl⟩ | ⟨rfl, rfl⟩ | ⟨rfl, rfl⟩ <;> exact ⟨by decide, by decide⟩

local macro_rules | `(tactic| walk_at "getMethod ref") => `(tactic| (k_here; (with_reducible show wpAny _ _ (getMethod (Value.ref _) (PySem.Str.ofString "search") _) _ _ _); k_dflt (refine' gm_search ?k1 ?_; (case k1 => first | exact pat_in (by k_asm) (pats (by k_asm)).2.2.2.1 | exact pat_in (by k_asm) (pats (by k_asm)).2.2.2.2.1 | exact pat_in (by k_asm) (pats (by k_asm)).2.2.2.2.2.1); k_whole)))
local macro_rules | `(tactic| walk_at "getMethod ref") => `(tactic| (k_here; (with_reducible show wpAny _ _ (getMethod (Value.ref _) (PySem.Str.ofString "sub") _) _ _ _); k_dflt (refine' gm_sub ?k1 ?_; (case k1 => exact pat_in (by k_asm) (pats (by k_asm)).2.2.2.2.2.2); k_whole)))
local macro_rules | `(tactic| walk_at "getMethod ref") => `(tactic| (k_here; (with_reducible show wpAny _ _ (getMethod (Value.ref _) (PySem.Str.ofString "subn") _) _ _ _); k_dflt (refine' gm_subn ?k1 ?_; (case k1 => exact pat_in (by k_asm) (pats (by k_asm)).2.2.1); k_whole)))
local macro_rules | `(tactic| walk_at "call builtin:re.Pattern.search") => `(tactic| (k_here; k_dflt (refine' search_no_K ?k1 ?k2 ?k3 ?k4 ?_; (case k1 => k_asm); (case k2 => first | exact (pats (by k_asm)).2.2.2.1 | exact (pats (by k_asm)).2.2.2.2.1 | exact (pats (by k_asm)).2.2.2.2.2.1); (case k4 => assumption); (case k3 => omega); k_whole)))
local macro_rules | `(tactic| walk_at "call builtin:re.Pattern.search") => `(tactic| (k_here; k_dflt (refine' search_yes_K ?k1 ?k2 ?k3 ?k4 ?k5 ?k6 ?_; (case k1 | k2 => k_asm); (case k3 => first | exact (pats (by k_asm)).2.2.2.1 | exact (pats (by k_asm)).2.2.2.2.1 | exact (pats (by k_asm)).2.2.2.2.2.1); (case k5 => assumption); (case k4 => omega); (case k6 => assumption); k_whole); intro mt' tp' h' F' N' l1 l2; (try k_lt l1); (try k_lt2 l2); (try k_sweep)))
local macro_rules | `(tactic| walk_at "call builtin:re.Match.group") => `(tactic| (k_here; k_dflt (refine' group_K ?k1 ?k2 ?k3 ?k4 ?_; (case k1 => k_asm); (case k2 | k3 => k_mem); (case k4 => omega); k_whole); intro gl'))
local macro_rules | `(tactic| walk_at "call ref") => `(tactic| (k_here; (with_reducible show wpAny _ _ (call (Value.ref 43) [Value.ref _]) _ _ _); k_dflt (refine' unmatched_spec _ _ _ _ _ _ _ _ _ _ _ _ _ _ _ _ _ _ _ _ _ _ _ _ _ _ _ _ _ _ _ _ _ ?k1 ?k2 ?k3 ?k4 ?k5 ?kK ?kx ?kb ?kd ?ku ?_; (case k1 | k2 => k_asm); (case k3 | k4 | k5 => k_asm); (case kK => exact rfl); (case kx => omega); (case kb => first | assumption | omega); (case kd => ktr_room); (case ku => ktr_units); k_whole); intro tk' h' tk2' cl' F' N'; (try k_sweep)))
local macro_rules | `(tactic| walk_at "truthy str") => `(tactic| (k_here; k_dflt (refine' truthy_ne ?a ?b ?_; (case a => assumption); (case b => omega); k_whole)))

local macro_rules | `(tactic| walk_at "call builtin:re.Pattern.sub") => `(tactic| (k_here; k_dflt (refine' sub_one (ssub _ _ (by assumption)) ?z1 ?z2 ?k1 ?k2 ?k3 ?k4 ?k5 ?_ ?_; (case z1 => exact (sset_size _ _ (by assumption)).1); (case z2 => exact (sset_size _ _ (by assumption)).2); (case k1 => exact (pats (by k_asm)).2.2.2.2.2.2); (case k2 | k3 => k_asm); (case k4 => k_mem); (case k5 => exact rfl)); rotate_left; (intro tk' h' tk2' F' N'; (try k_sweep))))
local macro_rules | `(tactic| walk_at "call builtin:str.lstrip") => `(tactic| (k_here; k_dflt (refine' lstrip_K ?a ?b ?_; (case b => assumption); (case a => omega); k_whole); intro tl' kl'))
local macro_rules | `(tactic| walk_at "call builtin:str.startswith") => `(tactic| (k_here; k_dflt (refine' starts_K ?a ?_; (case a => assumption); k_whole)))
set_option maxHeartbeats 4000000 in
theorem split_spec (w : World) (p : Program) (loose : List Str) (mean : ExcName → Option Value) (mg mb : Str → Option Value)
  (dp un : Nat) (gd : Option (List Code)) (cn : Str) (cs : Scope) (a : Addr) (ccd : Value) (cl : List (Str × Addr)) (outer : List Env) (A₀ : Around) (base h₀ : Heap) (L : Addr) (m : Str → Option Value) (news : List (Addr × Obj)) (s : Shared) 
    (l : Addr) (e n : Nat) (x : Str) (tx : Tok) (ws : List (List KV)) (ps : Array Value) (Q E : Value → Shared → Prop)
    (B : Below A₀ base outer h₀) (F : Fr h₀ L s.heap m) (X : (hd.heap_39 w.params).In h₀) (N : News h₀ L s.heap ((65, tabObj ps) :: (l, lstO [.str x tx] e) :: news)) (T : Top p loose mean mg mb h₀) (C : CodeHd base 69 65) (hk : cs.kind = .function) 
    (hG : Go n x [] ws) (hn : n ≤ 2 ^ 18) (hT : TabOk 26 49 sq (fun _ => True) news ps) (hne : ∀ q ∈ news, q.1 ≠ 65) (hl65 : l ≠ 65) (hx : x.length ≤ 1000) (hdp : dp + 2 < recursionLimit) (hu : un + 32 < cLine)
    (hret : ∀ r h' tk' res eR ps' news', Fr h₀ L h' m → News h₀ L h' ((r, lstO res eR) :: (65, tabObj ps') :: news') → (∀ q ∈ news, q ∈ news') → WordsIn news' res ws → TabOk 26 49 sq (fun _ => True) news' ps' → (∀ q ∈ news', q.1 ≠ 65) → Q (.ref r) { s with heap := h', toks := tk' }) :
    wpAny (model prg w) (ktrTop dp un gd cn cs L a ccd cl outer) (call (.ref 70) [.ref l]) Q E s := by
  w_top off
  have : (PySem.Challenge.rw_re0071_01, hd.heap_39) = (PySem.Challenge.rw_re0071_01, hd.heap_39) := by
    k_fill
    rfl
  clear this
  refine wpAny_call ?_
  k_dflt cell_enter
  (repeat' ((fail_if_success first | (with_reducible show wpAny _ _ (exec (PySem.Stmt.For _ _ _ _ _) _) _ _ _) | (with_reducible show wpAny _ _ (exec (PySem.Stmt.While _ _ _ _) _) _ _ _) | (with_reducible show wpAny _ _ (call (Value.builtin "list.append") _) _ _ _) | (with_reducible show wpAny _ _ (PySem.eval (PySem.Expr.Lambda _ _ _ _) _) _ _ _)); first | (k_unfold; (try dsimp only)) | walk1 | (dsimp only; walk1)))
  refine For_turns (by assumption) ?_
  walk1
  refine list_inv (ax := l) (lo := lstO [.str x tx] e) (vs := [.str x tx]) (n := e) (JF ((l, lstO [.str x tx] e) :: news) ws) rfl (by k_asm) (by k_asm) ?hm rfl rfl ?hj ?turn ?done
  case hm => exact .tail _ (.tail _ (.head _))
  case hj =>
    rename (@LT.lt Nat _ _ _ ∧ @LT.lt Nat _ _ _ ∧ AllLt _ _) => l1
    exact ⟨_, [], 0, ps, (l, lstO [.str x tx] e) :: news, rfl, rfl, trivial, hT.mono fun q hq => .tail _ hq, fun _ h => h, fun q hq => by (rcases List.mem_cons.mp hq with rfl | hq); exact ⟨hl65, Nat.ne_of_lt l1.2.1⟩; exact ⟨hne q hq, Nat.ne_of_lt (allLt_mem l1.2.2 q hq)⟩, Nat.ne_of_gt l1.1, by simp, fun _ => rfl⟩
  case turn =>
    intro I i v m₁ news₁ h tk oI hI hv hJ hoff F₁ N₁
    have hi : i = 0 ∧ v = .str x tx := by
      cases i with
      | zero => exact ⟨rfl, (Option.some.inj hv).symm⟩
      | succ i => simp at hv
    obtain ⟨rfl, rfl⟩ := hi
    refine Classical.byContradiction fun hgo9 => ?_
    obtain ⟨Rs, res, eR, ps', rest, hm, rfl, hWo, hT', hsub, hR, hR65, hrb, hr0⟩ := hJ
    rw [map_one hm] at F₁
    refine hgo9 ?_
    clear hgo9
    clear hT
    (repeat' ((fail_if_success first | (with_reducible show wpAny _ _ (exec (PySem.Stmt.For _ _ _ _ _) _) _ _ _) | (with_reducible show wpAny _ _ (exec (PySem.Stmt.While _ _ _ _) _) _ _ _) | (with_reducible show wpAny _ _ (call (Value.builtin "list.append") _) _ _ _) | (with_reducible show wpAny _ _ (PySem.eval (PySem.Expr.Lambda _ _ _ _) _) _ _ _)); first | (k_unfold; (try dsimp only)) | walk1 | (dsimp only; walk1)))
    rename (@LT.lt Nat _ _ _ ∧ @LT.lt Nat _ _ _ ∧ @LT.lt Nat _ _ _ ∧ AllLt _ _) => l1
    rename_i Pr _ _ _ _
    have i1 : I ≠ 65 := fun e => hoff _ (.tail _ (.head _)) e.symm
    have i2 : Rs ≠ I := hoff _ (.head _)
    refine While_inv (JW I oI ((l, lstO [.str x tx] e) :: news) ws) (n₀ := n) (by k_asm) (by k_asm) ?hjw ?turnw
    case hjw =>
      have hw0 : res = [] := List.eq_nil_of_length_eq_zero (hr0 rfl)
      subst hw0
      have hP0 : @Ne Nat Pr Rs := Nat.ne_of_gt l1.2.1
      exact ⟨x, tx, Pr, [], 0, [], Rs, [], eR, [], ws, ps', rest, rfl, rfl, rfl, rfl, trivial, trivial, hG, rfl, hT', hsub, ⟨fun q hq => ⟨(hR q hq).1, (hR q hq).2, Nat.ne_of_lt (allLt_mem l1.2.2.2 q hq), hoff _ (.tail _ (.tail _ hq))⟩, hR65, Nat.ne_of_gt l1.2.2.1, hP0, Nat.ne_of_gt l1.1, i2, i1⟩, hx, by simp; omega, by simp; omega⟩
    case turnw =>
      intro n₁ m₂ news₂ h₂ tk₂ F₂ N₂ hJ₂
      refine Classical.byContradiction fun hgo9 => ?_
      obtain ⟨x2, tx2, Pr2, prs, eP, pr, Rs2, res2, eR2, rw2, R, ps2, rest2, k1, k2, k3, rfl, hPs, hWs, hGo, hws, hT2, hsub2, hsep, hx2, hb1, hb2⟩ := hJ₂
      rw [map_one k1] at F₂
      rw [map_one (x := "pairs") (v := .ref Pr2) (m := fun y => if y = Str.ofString "text" then some (Value.str x2 tx2) else m₂ y) (by rw [if_neg (by decide)]; exact k2)] at F₂
      rw [map_one (x := "result") (v := .ref Rs2) (m := fun y => if y = Str.ofString "pairs" then some (Value.ref Pr2) else if y = Str.ofString "text" then some (Value.str x2 tx2) else m₂ y) (by rw [if_neg (by decide), if_neg (by decide)]; exact k3)] at F₂
      refine hgo9 ?_
      clear hgo9
      clear hret hWo hT'
      have u1 : @Ne Nat Rs2 65 := hsep.2.1
      have u2 : @Ne Nat Pr2 65 := hsep.2.2.1
      have u3 : @Ne Nat Pr2 Rs2 := hsep.2.2.2.1
      have u4 : @Ne Nat Pr2 I := hsep.2.2.2.2.1
      have u5 : @Ne Nat Rs2 I := hsep.2.2.2.2.2.1
      have u6 : @Ne Nat I 65 := hsep.2.2.2.2.2.2
      have r1 : ∀ q ∈ rest2, @Ne Nat q.1 65 := fun q hq => (hsep.1 q hq).1
      have hsp : ∀ q ∈ rest2, q.1 ≠ 65 ∧ q.1 ≠ Rs2 ∧ q.1 ≠ I := fun q hq => ⟨(hsep.1 q hq).1, (hsep.1 q hq).2.1, (hsep.1 q hq).2.2.2⟩
      cases hGo with
      | fin =>
        (repeat' ((fail_if_success first | (with_reducible show wpAny _ _ (exec (PySem.Stmt.For _ _ _ _ _) _) _ _ _) | (with_reducible show wpAny _ _ (exec (PySem.Stmt.While _ _ _ _) _) _ _ _) | (with_reducible show wpAny _ _ (call (Value.builtin "list.append") _) _ _ _) | (with_reducible show wpAny _ _ (PySem.eval (PySem.Expr.Lambda _ _ _ _) _) _ _ _) | (with_reducible show wpAny _ _ (newTuple _) _ _ _) | (with_reducible show wpAny _ _ (newList _) _ _ _) | (with_reducible show wpAny _ _ (call (Value.builtin "re.Pattern.subn") _) _ _ _) | (with_reducible show wpAny _ _ (truthy (Value.ref _)) _ _ _)); first | (k_unfold; (try dsimp only)) | walk1 | (dsimp only; walk1)))
        refine wpAny_truthy_list (items := prs.toArray) ⟨_, (N₂ _ (.head _)).1, rfl, eP, rfl⟩ (by rw [List.size_toArray]; omega) ?_
        cases prs with
        | nil =>
          have hp0 := hPs.nil
          subst hp0
          have hw' : rw2 = ws := by rw [← hws]; simp
          subst hw'
          show wpAny _ _ _ _ _ _
          (repeat' ((fail_if_success first | (with_reducible show wpAny _ _ (exec (PySem.Stmt.For _ _ _ _ _) _) _ _ _) | (with_reducible show wpAny _ _ (exec (PySem.Stmt.While _ _ _ _) _) _ _ _) | (with_reducible show wpAny _ _ (call (Value.builtin "list.append") _) _ _ _) | (with_reducible show wpAny _ _ (PySem.eval (PySem.Expr.Lambda _ _ _ _) _) _ _ _)); first | (k_unfold; (try dsimp only)) | walk1 | (dsimp only; walk1)))
          exact tf_end F₂ N₂ (in_cons (.tail _ (.tail _ (.head _))) (in_cons (.tail _ (.tail _ (.tail _ (.head _)))) (in_cons (.tail _ (.head _)) (by ((intro q9 hq9; repeat (first | exact hq9 | apply List.mem_cons_of_mem))))))) rfl hWs hT2 hsub2 hsp u1 u5 u6 (by omega)
        | cons v0 vs0 =>
          have hp0 := hPs.cons_ne
          rw [hp0] at hws
          have hw' : rw2 ++ [pr] = ws := by rw [← hws]; simp
          subst hw'
          have he : (!((v0 :: vs0).toArray.isEmpty)) = true := rfl
          rw [he]
          (repeat' ((fail_if_success first | (with_reducible show wpAny _ _ (exec (PySem.Stmt.For _ _ _ _ _) _) _ _ _) | (with_reducible show wpAny _ _ (exec (PySem.Stmt.While _ _ _ _) _) _ _ _) | (with_reducible show wpAny _ _ (call (Value.builtin "list.append") _) _ _ _) | (with_reducible show wpAny _ _ (PySem.eval (PySem.Expr.Lambda _ _ _ _) _) _ _ _)); first | (k_unfold; (try dsimp only)) | walk1 | (dsimp only; walk1)))
          refine app_any ((65, tabObj ps2) :: (I, oI) :: (Pr2, lstO (v0 :: vs0) eP) :: rest2) (by k_asm) N₂ (.tail _ (.tail _ (.head _))) (by omega) (keep_cons (.tail _ (.tail _ (.tail _ (.head _)))) u1.symm (keep_cons (.tail _ (.head _)) u5.symm (keep_cons (.head _) u3 (keep_rest (by ((intro q9 hq9; repeat (first | exact hq9 | apply List.mem_cons_of_mem)))) fun q hq => (hsp q hq).2.1)))) ?_
          intro h9 F9 N9
          (repeat' ((fail_if_success first | (with_reducible show wpAny _ _ (exec (PySem.Stmt.For _ _ _ _ _) _) _ _ _) | (with_reducible show wpAny _ _ (exec (PySem.Stmt.While _ _ _ _) _) _ _ _) | (with_reducible show wpAny _ _ (call (Value.builtin "list.append") _) _ _ _) | (with_reducible show wpAny _ _ (PySem.eval (PySem.Expr.Lambda _ _ _ _) _) _ _ _)); first | (k_unfold; (try dsimp only)) | walk1 | (dsimp only; walk1)))
          exact tf_end (rest := (Pr2, lstO (v0 :: vs0) eP) :: rest2) F9 N9 (fun q hq => hq) rfl (WordsIn.snoc (p := pr) ⟨Pr2, _, eP, rfl, .head _, hPs.mono fun q hq => List.mem_cons_of_mem _ hq⟩ (hWs.mono fun q hq => List.mem_cons_of_mem _ hq)) (hT2.mono fun q hq => .tail _ hq) (fun q hq => .tail _ (hsub2 q hq)) (fun q hq => by (rcases List.mem_cons.mp hq with rfl | hq); exact ⟨u2, u3, u4⟩; exact hsp q hq) u1 u5 u6 (by rw [List.length_append]; simp only [List.length_singleton]; omega)
      | @quo n3 b i j b2 i2 j2 li li2 _ _ _ v g1 g2 g3 g4 g5 g6 g7 g8 g9 =>
        have z1 := cut_len x2 b
        have z2 := cut_len (cut x2 b) b2
        have g8' : ((⟨(cut x2 b).cps.extract i2 j2⟩ : Str), v) ∈ sset := g8
        (repeat' ((fail_if_success first | (with_reducible show wpAny _ _ (exec (PySem.Stmt.For _ _ _ _ _) _) _ _ _) | (with_reducible show wpAny _ _ (exec (PySem.Stmt.While _ _ _ _) _) _ _ _) | (with_reducible show wpAny _ _ (call (Value.builtin "list.append") _) _ _ _) | (with_reducible show wpAny _ _ (PySem.eval (PySem.Expr.Lambda _ _ _ _) _) _ _ _)); first | (k_unfold; (try dsimp only)) | walk1 | (dsimp only; walk1)))
        refine' lam_T (cl := []) ?FF ?NN ?TT ?CC rfl ?U hT2 (fun _ _ => trivial) ?sub rfl rfl rfl rfl ?_
        case FF => k_asm
        case NN => k_asm
        case TT => k_asm
        case CC => kn_code
        case U => k_updF
        case sub => intro q9 hq9; repeat (first | exact hq9 | apply List.mem_cons_of_mem)
        intro f c' oc vs t9 ctv ps3 h3 tk3 F3 N3 hd3 hv3 hT3 hc3 hlf hcf
        dsimp only at N3
        have hsep4 : Sep I Rs2 Pr2 ((c', oc) :: rest2) := by
          rcases hc3 with hc3 | hc3
          · exact ⟨fun q hq => by (rcases List.mem_cons.mp hq with rfl | hq); exact hsep.1 _ hc3; exact hsep.1 q hq, hsep.2⟩
          · exact hsep.cons (Nat.ne_of_gt (hc3 _ (.tail _ (.tail _ (.tail _ (.tail _ (.tail _ (.tail _ (.tail _ (.head _)))))))))) (Nat.ne_of_gt (hc3 _ (.tail _ (.tail _ (.tail _ (.tail _ (.tail _ (.tail _ (.head _))))))))) (Nat.ne_of_gt (hc3 _ (.tail _ (.tail _ (.tail _ (.tail _ (.head _))))))) (Nat.ne_of_gt (hc3 _ (.tail _ (.tail _ (.tail _ (.tail _ (.tail _ (.head _))))))))
        (repeat' ((fail_if_success first | (with_reducible show wpAny _ _ (exec (PySem.Stmt.For _ _ _ _ _) _) _ _ _) | (with_reducible show wpAny _ _ (exec (PySem.Stmt.While _ _ _ _) _) _ _ _) | (with_reducible show wpAny _ _ (call (Value.builtin "list.append") _) _ _ _) | (with_reducible show wpAny _ _ (PySem.eval (PySem.Expr.Lambda _ _ _ _) _) _ _ _) | (with_reducible show wpAny _ _ (newTuple _) _ _ _) | (with_reducible show wpAny _ _ (newList _) _ _ _) | (with_reducible show wpAny _ _ (call (Value.builtin "re.Pattern.subn") _) _ _ _)); first | (k_unfold; (try dsimp only)) | walk1 | (dsimp only; walk1)))
        all_goals first | (((rename (∀ (ty : Tok) (h₂ : Heap) (tk₂ : Nat), Fr _ _ h₂ _ → News _ _ h₂ _ → _) => ret; first | exact ret _ _ _ (by k_asm) (cb_drop (by assumption) (by intro q hq; exact .tail _ (.tail _ hq))) | (rename (((Str.length _ : Nat) : Int) = 0) => hz; rw [← str_len0 hz] at ret; exact ret _ _ _ (by k_asm) (cb_drop (by assumption) (by intro q hq; exact .tail _ (.tail _ hq)))))); done) | skip
        refine newTup_K (by k_asm) (by k_asm) (by simp) ?_
        intro D h5 F5 N5 l5
        have d1 := l5 _ (.tail _ (.tail _ (.tail _ (.tail _ (.tail _ (.tail _ (.head _)))))))
        have d2 := l5 _ (.tail _ (.tail _ (.tail _ (.tail _ (.tail _ (.tail _ (.tail _ (.head _))))))))
        have d3 := l5 _ (.tail _ (.tail _ (.tail _ (.tail _ (.tail _ (.tail _ (.tail _ (.tail _ (.head _)))))))))
        have d4 := l5 _ (.tail _ (.tail _ (.tail _ (.tail _ (.tail _ (.tail _ (.tail _ (.tail _ (.tail _ (.head _))))))))))
        (repeat' ((fail_if_success first | (with_reducible show wpAny _ _ (exec (PySem.Stmt.For _ _ _ _ _) _) _ _ _) | (with_reducible show wpAny _ _ (exec (PySem.Stmt.While _ _ _ _) _) _ _ _) | (with_reducible show wpAny _ _ (call (Value.builtin "list.append") _) _ _ _) | (with_reducible show wpAny _ _ (PySem.eval (PySem.Expr.Lambda _ _ _ _) _) _ _ _)); first | (k_unfold; (try dsimp only)) | walk1 | (dsimp only; walk1)))
        refine app_any ((I, oI) :: (Rs2, lstO res2 eR2) :: (65, tabObj ps3) :: (D, _) :: (c', oc) :: rest2) F5 N5 (.tail _ (.tail _ (.tail _ (.tail _ (.tail _ (.tail _ (.tail _ (.head _)))))))) (by omega) (keep_cons (.tail _ (.tail _ (.tail _ (.tail _ (.tail _ (.tail _ (.tail _ (.tail _ (.head _))))))))) u4.symm (keep_cons (.tail _ (.tail _ (.tail _ (.tail _ (.tail _ (.tail _ (.tail _ (.tail _ (.tail _ (.head _)))))))))) u3.symm (keep_cons (.tail _ (.tail _ (.tail _ (.tail _ (.tail _ (.tail _ (.tail _ (.tail _ (.tail _ (.tail _ (.head _))))))))))) u2.symm (keep_cons (.head _) (Nat.ne_of_gt d1) (keep_cons (.tail _ (.tail _ (.head _))) (hsep4.1 _ (.head _)).2.2.1 (keep_rest (by ((intro q9 hq9; repeat (first | exact hq9 | apply List.mem_cons_of_mem)))) fun q hq => (hsep.1 q hq).2.2.1)))))) ?_
        intro h9 F9 N9
        (repeat' ((fail_if_success first | (with_reducible show wpAny _ _ (exec (PySem.Stmt.For _ _ _ _ _) _) _ _ _) | (with_reducible show wpAny _ _ (exec (PySem.Stmt.While _ _ _ _) _) _ _ _) | (with_reducible show wpAny _ _ (call (Value.builtin "list.append") _) _ _ _) | (with_reducible show wpAny _ _ (PySem.eval (PySem.Expr.Lambda _ _ _ _) _) _ _ _)); first | (k_unfold; (try dsimp only)) | walk1 | (dsimp only; walk1)))
        exact ws_pair (vo := some _) F9 N9 rfl rfl rfl hPs hWs ⟨_, rfl⟩ g9 hws hT3 hsub2 (fun q hq => .tail _ hq) (hsep4.cons (Nat.ne_of_gt d4) (Nat.ne_of_gt d3) (Nat.ne_of_gt d1) (Nat.ne_of_gt d2)) (by omega) hb1 hb2
      | @val n3 b i j b2 i2 j2 li li2 _ _ _ g1 g2 g3 g4 g5 g6 g7 g8 g9 =>
        have z1 := cut_len x2 b
        have z2 := cut_len (cut x2 b) b2
        (repeat' ((fail_if_success first | (with_reducible show wpAny _ _ (exec (PySem.Stmt.For _ _ _ _ _) _) _ _ _) | (with_reducible show wpAny _ _ (exec (PySem.Stmt.While _ _ _ _) _) _ _ _) | (with_reducible show wpAny _ _ (call (Value.builtin "list.append") _) _ _ _) | (with_reducible show wpAny _ _ (PySem.eval (PySem.Expr.Lambda _ _ _ _) _) _ _ _) | (with_reducible show wpAny _ _ (newTuple _) _ _ _) | (with_reducible show wpAny _ _ (newList _) _ _ _) | (with_reducible show wpAny _ _ (call (Value.builtin "re.Pattern.subn") _) _ _ _)); first | (k_unfold; (try dsimp only)) | walk1 | (dsimp only; walk1)))
        refine newTup_K (by k_asm) (by k_asm) (by simp) ?_
        intro D h5 F5 N5 l5
        have d1 := l5 _ (.tail _ (.tail _ (.tail _ (.tail _ (.head _)))))
        have d2 := l5 _ (.tail _ (.tail _ (.tail _ (.tail _ (.tail _ (.head _))))))
        have d3 := l5 _ (.tail _ (.tail _ (.tail _ (.tail _ (.tail _ (.tail _ (.head _)))))))
        have d4 := l5 _ (.tail _ (.tail _ (.tail _ (.tail _ (.tail _ (.tail _ (.tail _ (.head _))))))))
        (repeat' ((fail_if_success first | (with_reducible show wpAny _ _ (exec (PySem.Stmt.For _ _ _ _ _) _) _ _ _) | (with_reducible show wpAny _ _ (exec (PySem.Stmt.While _ _ _ _) _) _ _ _) | (with_reducible show wpAny _ _ (call (Value.builtin "list.append") _) _ _ _) | (with_reducible show wpAny _ _ (PySem.eval (PySem.Expr.Lambda _ _ _ _) _) _ _ _)); first | (k_unfold; (try dsimp only)) | walk1 | (dsimp only; walk1)))
        refine app_any ((I, oI) :: (Rs2, lstO res2 eR2) :: (65, tabObj ps2) :: (D, _) :: rest2) F5 N5 (.tail _ (.tail _ (.tail _ (.tail _ (.tail _ (.head _)))))) (by omega) (keep_cons (.tail _ (.tail _ (.tail _ (.tail _ (.tail _ (.tail _ (.head _))))))) u4.symm (keep_cons (.tail _ (.tail _ (.tail _ (.tail _ (.tail _ (.tail _ (.tail _ (.head _)))))))) u3.symm (keep_cons (.tail _ (.tail _ (.tail _ (.tail _ (.tail _ (.tail _ (.tail _ (.tail _ (.head _))))))))) u2.symm (keep_cons (.head _) (Nat.ne_of_gt d1) (keep_rest (by ((intro q9 hq9; repeat (first | exact hq9 | apply List.mem_cons_of_mem)))) fun q hq => (hsep.1 q hq).2.2.1))))) ?_
        intro h9 F9 N9
        (repeat' ((fail_if_success first | (with_reducible show wpAny _ _ (exec (PySem.Stmt.For _ _ _ _ _) _) _ _ _) | (with_reducible show wpAny _ _ (exec (PySem.Stmt.While _ _ _ _) _) _ _ _) | (with_reducible show wpAny _ _ (call (Value.builtin "list.append") _) _ _ _) | (with_reducible show wpAny _ _ (PySem.eval (PySem.Expr.Lambda _ _ _ _) _) _ _ _)); first | (k_unfold; (try dsimp only)) | walk1 | (dsimp only; walk1)))
        exact ws_pair (vo := some _) F9 N9 rfl rfl rfl hPs hWs ⟨_, rfl⟩ g9 hws hT2 hsub2 (fun q hq => hq) (hsep.cons (Nat.ne_of_gt d4) (Nat.ne_of_gt d3) (Nat.ne_of_gt d1) (Nat.ne_of_gt d2)) (by omega) hb1 hb2
      | @non n3 b i j li _ _ _ g1 g2 g3 g4 g5 g6 g7 =>
        have z1 := cut_len x2 b
        (repeat' ((fail_if_success first | (with_reducible show wpAny _ _ (exec (PySem.Stmt.For _ _ _ _ _) _) _ _ _) | (with_reducible show wpAny _ _ (exec (PySem.Stmt.While _ _ _ _) _) _ _ _) | (with_reducible show wpAny _ _ (call (Value.builtin "list.append") _) _ _ _) | (with_reducible show wpAny _ _ (PySem.eval (PySem.Expr.Lambda _ _ _ _) _) _ _ _) | (with_reducible show wpAny _ _ (newTuple _) _ _ _) | (with_reducible show wpAny _ _ (newList _) _ _ _) | (with_reducible show wpAny _ _ (call (Value.builtin "re.Pattern.subn") _) _ _ _)); first | (k_unfold; (try dsimp only)) | walk1 | (dsimp only; walk1)))
        refine newTup_K (by k_asm) (by k_asm) (by simp) ?_
        intro D h5 F5 N5 l5
        have d1 := l5 _ (.tail _ (.tail _ (.head _)))
        have d2 := l5 _ (.tail _ (.tail _ (.tail _ (.head _))))
        have d3 := l5 _ (.tail _ (.tail _ (.tail _ (.tail _ (.head _)))))
        have d4 := l5 _ (.tail _ (.tail _ (.tail _ (.tail _ (.tail _ (.head _))))))
        (repeat' ((fail_if_success first | (with_reducible show wpAny _ _ (exec (PySem.Stmt.For _ _ _ _ _) _) _ _ _) | (with_reducible show wpAny _ _ (exec (PySem.Stmt.While _ _ _ _) _) _ _ _) | (with_reducible show wpAny _ _ (call (Value.builtin "list.append") _) _ _ _) | (with_reducible show wpAny _ _ (PySem.eval (PySem.Expr.Lambda _ _ _ _) _) _ _ _)); first | (k_unfold; (try dsimp only)) | walk1 | (dsimp only; walk1)))
        refine app_any ((I, oI) :: (Rs2, lstO res2 eR2) :: (65, tabObj ps2) :: (D, _) :: rest2) F5 N5 (.tail _ (.tail _ (.tail _ (.head _)))) (by omega) (keep_cons (.tail _ (.tail _ (.tail _ (.tail _ (.head _))))) u4.symm (keep_cons (.tail _ (.tail _ (.tail _ (.tail _ (.tail _ (.head _)))))) u3.symm (keep_cons (.tail _ (.tail _ (.tail _ (.tail _ (.tail _ (.tail _ (.head _))))))) u2.symm (keep_cons (.head _) (Nat.ne_of_gt d1) (keep_rest (by ((intro q9 hq9; repeat (first | exact hq9 | apply List.mem_cons_of_mem)))) fun q hq => (hsep.1 q hq).2.2.1))))) ?_
        intro h9 F9 N9
        (repeat' ((fail_if_success first | (with_reducible show wpAny _ _ (exec (PySem.Stmt.For _ _ _ _ _) _) _ _ _) | (with_reducible show wpAny _ _ (exec (PySem.Stmt.While _ _ _ _) _) _ _ _) | (with_reducible show wpAny _ _ (call (Value.builtin "list.append") _) _ _ _) | (with_reducible show wpAny _ _ (PySem.eval (PySem.Expr.Lambda _ _ _ _) _) _ _ _)); first | (k_unfold; (try dsimp only)) | walk1 | (dsimp only; walk1)))
        exact ws_pair (vo := none) F9 N9 rfl rfl rfl hPs hWs rfl g7 hws hT2 hsub2 (fun q hq => hq) (hsep.cons (Nat.ne_of_gt d4) (Nat.ne_of_gt d3) (Nat.ne_of_gt d1) (Nat.ne_of_gt d2)) (by omega) hb1 hb2
      | @com n3 _ _ R3 g1 g2 g3 g4 g5 g6 =>
        have hsl : Txt.slice x2 (some 1) none = cut x2 1 := slice_drop x2 1 (by omega)
        have z1 := cut_len x2 1
        (repeat' ((fail_if_success first | (with_reducible show wpAny _ _ (exec (PySem.Stmt.For _ _ _ _ _) _) _ _ _) | (with_reducible show wpAny _ _ (exec (PySem.Stmt.While _ _ _ _) _) _ _ _) | (with_reducible show wpAny _ _ (call (Value.builtin "list.append") _) _ _ _) | (with_reducible show wpAny _ _ (PySem.eval (PySem.Expr.Lambda _ _ _ _) _) _ _ _) | (with_reducible show wpAny _ _ (newTuple _) _ _ _) | (with_reducible show wpAny _ _ (newList _) _ _ _) | (with_reducible show wpAny _ _ (call (Value.builtin "re.Pattern.subn") _) _ _ _) | (with_reducible show wpAny _ _ (truthy (Value.ref _)) _ _ _)); first | (k_unfold; (try dsimp only)) | walk1 | (dsimp only; walk1)))
        rename (News _ _ _ ((Pr2, lstO prs eP) :: _)) => N5
        refine wpAny_truthy_list (items := prs.toArray) ⟨_, (N5 _ (.head _)).1, rfl, eP, rfl⟩ (by rw [List.size_toArray]; omega) ?_
        cases prs with
        | nil => exact absurd hPs.nil g5
        | cons v0 vs0 =>
          have he : (!((v0 :: vs0).toArray.isEmpty)) = true := rfl
          rw [he]
          (repeat' ((fail_if_success first | (with_reducible show wpAny _ _ (exec (PySem.Stmt.For _ _ _ _ _) _) _ _ _) | (with_reducible show wpAny _ _ (exec (PySem.Stmt.While _ _ _ _) _) _ _ _) | (with_reducible show wpAny _ _ (call (Value.builtin "list.append") _) _ _ _) | (with_reducible show wpAny _ _ (PySem.eval (PySem.Expr.Lambda _ _ _ _) _) _ _ _)); first | (k_unfold; (try dsimp only)) | walk1 | (dsimp only; walk1)))
          refine app_any ((Pr2, lstO (v0 :: vs0) eP) :: (I, oI) :: (65, tabObj ps2) :: rest2) (by k_asm) N5 (.tail _ (.tail _ (.head _))) (by omega) (keep_cons (.head _) u3 (keep_cons (.tail _ (.head _)) u5.symm (keep_cons (.tail _ (.tail _ (.tail _ (.head _)))) u1.symm (keep_rest (by ((intro q9 hq9; repeat (first | exact hq9 | apply List.mem_cons_of_mem)))) fun q hq => (hsep.1 q hq).2.1)))) ?_
          intro h9 F9 N9
          (repeat' ((fail_if_success first | (with_reducible show wpAny _ _ (exec (PySem.Stmt.For _ _ _ _ _) _) _ _ _) | (with_reducible show wpAny _ _ (exec (PySem.Stmt.While _ _ _ _) _) _ _ _) | (with_reducible show wpAny _ _ (call (Value.builtin "list.append") _) _ _ _) | (with_reducible show wpAny _ _ (PySem.eval (PySem.Expr.Lambda _ _ _ _) _) _ _ _) | (with_reducible show wpAny _ _ (newTuple _) _ _ _) | (with_reducible show wpAny _ _ (newList _) _ _ _) | (with_reducible show wpAny _ _ (call (Value.builtin "re.Pattern.subn") _) _ _ _)); first | (k_unfold; (try dsimp only)) | walk1 | (dsimp only; walk1)))
          refine newLst_K (by k_asm) (by k_asm) (by simp) ?_
          intro P3 h6 F6 N6 l6
          (repeat' ((fail_if_success first | (with_reducible show wpAny _ _ (exec (PySem.Stmt.For _ _ _ _ _) _) _ _ _) | (with_reducible show wpAny _ _ (exec (PySem.Stmt.While _ _ _ _) _) _ _ _) | (with_reducible show wpAny _ _ (call (Value.builtin "list.append") _) _ _ _) | (with_reducible show wpAny _ _ (PySem.eval (PySem.Expr.Lambda _ _ _ _) _) _ _ _)); first | (k_unfold; (try dsimp only)) | walk1 | (dsimp only; walk1)))
          rename (Fr _ _ _ _) => F7
          rename (News _ _ _ _) => N7
          exact ws_com F7 (fun q hq => N7 q (by revert q; exact in_cons (.head _) (in_cons (.tail _ (.head _)) (in_cons (.tail _ (.tail _ (.head _))) (in_cons (.tail _ (.tail _ (.tail _ (.tail _ (.head _))))) (in_cons (.tail _ (.tail _ (.tail _ (.head _)))) (by ((intro q9 hq9; repeat (first | exact hq9 | apply List.mem_cons_of_mem)))))))))) (by rw [hsl]; rfl) rfl rfl hPs hWs g6 hws hT2 hsub2 hsep (by intro q hq; exact l6 q (by revert q; exact in_cons (.head _) (in_cons (.tail _ (.head _)) (in_cons (.tail _ (.tail _ (.tail _ (.head _)))) (in_cons (.tail _ (.tail _ (.head _))) (by ((intro q9 hq9; repeat (first | exact hq9 | apply List.mem_cons_of_mem))))))))) (by omega) hb1 hb2
      | @jnk n3 b li _ _ _ g1 g2 g3 g4 g5 g6 g7 g8 g9 =>
        have z1 := cut_len x2 b
        (repeat' ((fail_if_success first | (with_reducible show wpAny _ _ (exec (PySem.Stmt.For _ _ _ _ _) _) _ _ _) | (with_reducible show wpAny _ _ (exec (PySem.Stmt.While _ _ _ _) _) _ _ _) | (with_reducible show wpAny _ _ (call (Value.builtin "list.append") _) _ _ _) | (with_reducible show wpAny _ _ (PySem.eval (PySem.Expr.Lambda _ _ _ _) _) _ _ _) | (with_reducible show wpAny _ _ (newTuple _) _ _ _) | (with_reducible show wpAny _ _ (newList _) _ _ _) | (with_reducible show wpAny _ _ (call (Value.builtin "re.Pattern.subn") _) _ _ _)); first | (k_unfold; (try dsimp only)) | walk1 | (dsimp only; walk1)))
        refine subn_K (by k_asm) (by k_asm) (pats (by k_asm)).2.2.1 hx2 g5 g6 g7 g8 ?_
        intro tp tk5 ti h5 tk6 F5 N5
        (repeat' ((fail_if_success first | (with_reducible show wpAny _ _ (exec (PySem.Stmt.For _ _ _ _ _) _) _ _ _) | (with_reducible show wpAny _ _ (exec (PySem.Stmt.While _ _ _ _) _) _ _ _) | (with_reducible show wpAny _ _ (call (Value.builtin "list.append") _) _ _ _) | (with_reducible show wpAny _ _ (PySem.eval (PySem.Expr.Lambda _ _ _ _) _) _ _ _)); first | (k_unfold; (try dsimp only)) | walk1 | (dsimp only; walk1)))
        rename (Fr _ _ _ _) => F7
        rename (News _ _ _ _) => N7
        exact ws_cut F7 (fun q hq => N7 q (.tail _ hq)) rfl rfl rfl hPs hWs g9 hws hT2 hsub2 hsep (by omega) hb1 hb2
  case done =>
    intro m₁ news₁ h tk hJ F₁ N₁
    refine Classical.byContradiction fun hgo9 => ?_
    obtain ⟨Rs, res, eR, ps', rest, hm, rfl, hW, hT', hsub, hR, hR65, hrb, _⟩ := hJ
    rw [map_one hm] at F₁
    refine hgo9 ?_
    clear hgo9
    clear hT
    have hW' : WordsIn rest res ws := hW
    (repeat' ((fail_if_success first | (with_reducible show wpAny _ _ (exec (PySem.Stmt.For _ _ _ _ _) _) _ _ _) | (with_reducible show wpAny _ _ (exec (PySem.Stmt.While _ _ _ _) _) _ _ _) | (with_reducible show wpAny _ _ (call (Value.builtin "list.append") _) _ _ _) | (with_reducible show wpAny _ _ (PySem.eval (PySem.Expr.Lambda _ _ _ _) _) _ _ _)); first | (k_unfold; (try dsimp only)) | walk1 | (dsimp only; walk1)))
    exact hret _ _ _ res eR ps' rest (by k_asm) (by assumption) (fun q hq => hsub q (.tail _ hq)) hW' hT' fun q hq => (hR q hq).1
end

end

-- part Kl
section
def PairAt (news : List (Addr × Obj)) (r : Addr) (f g : Nat) : Prop :=
  ∃ a b e L1 t1 e1 L2 t2 e2, (r, lstO [.ref a, .ref b] e) ∈ news ∧ (a, lstO [L1, .str (txt f) t1] e1) ∈ news ∧ (b, lstO [L2, .str (txt g) t2] e2) ∈ news ∧ WordIn news L1 (wd f) ∧ WordIn news L2 (wd g)
theorem PairAt.mono {n n' : List (Addr × Obj)} {r : Addr} {f g : Nat} (h : ∀ p ∈ n, p ∈ n') (H : PairAt n r f g) : PairAt n' r f g := by
  obtain ⟨a, b, e, L1, t1, e1, L2, t2, e2, h1, h2, h3, h4, h5⟩ := H
  exact ⟨a, b, e, L1, t1, e1, L2, t2, e2, h _ h1, h _ h2, h _ h3, h4.mono h, h5.mono h⟩
def StrsIn : List Value → List Str → Prop
  | [], [] => True
  | v :: vs, x :: xs => (∃ t, v = .str x t) ∧ StrsIn vs xs
  | _, _ => False
theorem StrsIn.get : ∀ {vs : List Value} {xs : List Str} {i : Nat} {x : Str}, StrsIn vs xs → xs[i]? = some x → ∃ t, vs[i]? = some (.str x t)
  | [], [], _, _, _, e => by simp at e
  | _ :: _, _ :: _, 0, x, ⟨⟨t, a⟩, _⟩, e => by cases e; subst a; exact ⟨t, rfl⟩
  | _ :: _, _ :: _, i + 1, x, ⟨_, r⟩, e => r.get (i := i) e
theorem WordsIn.get {n : List (Addr × Obj)} : ∀ {vs : List Value} {ps : List (List KV)} {i : Nat} {p : List KV}, WordsIn n vs ps → ps[i]? = some p → ∃ v, vs[i]? = some v ∧ WordIn n v p
  | [], [], _, _, _, e => by simp at e
  | v :: _, p :: _, 0, _, ⟨a, _⟩, e => by cases e; exact ⟨v, rfl, a⟩
  | _ :: _, _ :: _, i + 1, v, ⟨_, r⟩, e => r.get (i := i) e
section
variable {prog : Program} {w : World} {A : Around} {E : Value → Shared → Prop} {s : Shared} {h₀ : Heap} {L : Addr} {m : Str → Option Value} {news : List (Addr × Obj)} {P : Params}
theorem item_K {value slice : Expr} {l : Addr} {ys : List Value} {e : Nat} {k : Int} {t : Tok} {Q : Value → Shared → Prop} (v : Value) (N : News h₀ L s.heap news) (hm : (l, lstO ys e) ∈ news) (h0 : 0 ≤ k) (hk : k < 2 ^ 63) (hv : ys[k.toNat]? = some v) (h : Q v s)
    (hs : subscripted slice false (.ref l) (.int k t) = operate [.ref l, .int k t] (getItem (.ref l) (.int k t)) := by with_unfolding_all rfl) : wpAny (model prog w) A (subscriptTail value slice (.ref l) (.int k t)) Q E s :=
  have hl : s.heap.IsList l ys.toArray := ⟨_, (N _ hm).1, rfl, e, rfl⟩
  subscriptTail_builtinR hl.typeIs slot_list_getitem.lookup (wpAny_getItem_list hl h0 hk (by simpa using hv) ⟨rfl, h⟩) hs
end
theorem mods (x : Int) : ∃ f g : Nat, f < 6 ∧ g < 6 ∧ f ≠ g ∧ x.fmod 6 = (f : Int) ∧ (x.fmod 6 + 1 + (x.fdiv 6).fmod 5).fmod 6 = (g : Int) := by
  have h1 : 0 ≤ x.fmod 6 := Int.fmod_nonneg_of_pos _ (by decide)
  have h2 : x.fmod 6 < 6 := Int.fmod_lt_of_pos _ (by decide)
  have h3 : 0 ≤ (x.fdiv 6).fmod 5 := Int.fmod_nonneg_of_pos _ (by decide)
  have h4 : (x.fdiv 6).fmod 5 < 5 := Int.fmod_lt_of_pos _ (by decide)
  generalize x.fmod 6 = a at *
  generalize (x.fdiv 6).fmod 5 = b at *
  refine ⟨a.toNat, ((a + 1 + b).fmod 6).toNat, ?_⟩
  rw [Int.fmod_eq_emod_of_nonneg _ (by decide)]
  omega

theorem word_one {n : List (Addr × Obj)} {l d : Addr} {e : Nat} {k : Str} {t : Tok} {u : Value} {v : Option Str} (h1 : (l, lstO [.ref d] e) ∈ n) (h2 : (d, tupO [.str k t, u]) ∈ n) (hv : ValIs u v) : WordIn n (.ref l) [(k, v)] :=
  ⟨l, _, e, rfl, h1, ⟨d, t, u, rfl, h2, hv⟩, trivial⟩
theorem word_two {n : List (Addr × Obj)} {l d d2 : Addr} {e : Nat} {k k2 : Str} {t t2 : Tok} {u u2 : Value} {v v2 : Option Str} (h1 : (l, lstO [.ref d, .ref d2] e) ∈ n) (h2 : (d, tupO [.str k t, u]) ∈ n) (hv : ValIs u v) (h3 : (d2, tupO [.str k2 t2, u2]) ∈ n) (hv2 : ValIs u2 v2) : WordIn n (.ref l) [(k, v), (k2, v2)] :=
  ⟨l, _, e, rfl, h1, ⟨d, t, u, rfl, h2, hv⟩, ⟨d2, t2, u2, rfl, h3, hv2⟩, trivial⟩
theorem ne_lt {d : Addr} {l : List (Addr × Obj)} (h : ∀ p ∈ l, p.1 < d) : ∀ p ∈ l, p.1 ≠ d := fun p hp => Nat.ne_of_lt (h p hp)

abbrev pairL (Ts Ls l5 d6 d5 l4 d4 l3 d3 l2 d2 l1 d1 l0 d0 : Addr) (x0 x1 x2 x3 x4 x5 y0 y1 z1 y2 z2 y3 z3 y4 z4 y5 y6 z6 : Tok) (rest : List (Addr × Obj)) : List (Addr × Obj) :=
  (Ts, lstO [.str "a" x0, .str "a=\"\"" x1, .str "a=b" x2, .str "a=\"b\\\"\"" x3, .str "a=\"\\\\, a\"" x4, .str "a; b=\"a;\"" x5] 0) :: (Ls, lstO [.ref l0, .ref l1, .ref l2, .ref l3, .ref l4, .ref l5] 0) ::
  (l5, lstO [.ref d5, .ref d6] 0) :: (d6, tupO [.str "b" y6, .str "a;" z6]) :: (d5, tupO [.str "a" y5, .none]) :: (l4, lstO [.ref d4] 0) :: (d4, tupO [.str "a" y4, .str "\\, a" z4]) :: (l3, lstO [.ref d3] 0) :: (d3, tupO [.str "a" y3, .str "b\"" z3]) ::
  (l2, lstO [.ref d2] 0) :: (d2, tupO [.str "a" y2, .str "b" z2]) :: (l1, lstO [.ref d1] 0) :: (d1, tupO [.str "a" y1, .str "" z1]) :: (l0, lstO [.ref d0] 0) :: (d0, tupO [.str "a" y0, .none]) :: rest
theorem pair_at {g h : Heap} {L Ts Ls l5 d6 d5 l4 d4 l3 d3 l2 d2 l1 d1 l0 d0 : Addr} {x0 x1 x2 x3 x4 x5 y0 y1 z1 y2 z2 y3 z3 y4 z4 y5 y6 z6 : Tok} {rest : List (Addr × Obj)}
    (N : News g L h (pairL Ts Ls l5 d6 d5 l4 d4 l3 d3 l2 d2 l1 d1 l0 d0 x0 x1 x2 x3 x4 x5 y0 y1 z1 y2 z2 y3 z3 y4 z4 y5 y6 z6 rest)) (k : Nat) (hk : k < 6) :
    ∃ v t, [Value.ref l0, .ref l1, .ref l2, .ref l3, .ref l4, .ref l5][k]? = some v ∧ WordIn (pairL Ts Ls l5 d6 d5 l4 d4 l3 d3 l2 d2 l1 d1 l0 d0 x0 x1 x2 x3 x4 x5 y0 y1 z1 y2 z2 y3 z3 y4 z4 y5 y6 z6 rest) v (wd k) ∧
      [Value.str "a" x0, .str "a=\"\"" x1, .str "a=b" x2, .str "a=\"b\\\"\"" x3, .str "a=\"\\\\, a\"" x4, .str "a; b=\"a;\"" x5][k]? = some (.str (txt k) t) := by
  match k, hk with
  | 0, _ => exact ⟨_, _, rfl, word_one (d := d0) (t := y0) (u := .none) (by (repeat (first | exact List.Mem.head _ | apply List.Mem.tail))) (by (repeat (first | exact List.Mem.head _ | apply List.Mem.tail))) rfl, rfl⟩
  | 1, _ => exact ⟨_, _, rfl, word_one (d := d1) (t := y1) (u := .str "" z1) (by (repeat (first | exact List.Mem.head _ | apply List.Mem.tail))) (by (repeat (first | exact List.Mem.head _ | apply List.Mem.tail))) ⟨_, rfl⟩, rfl⟩
  | 2, _ => exact ⟨_, _, rfl, word_one (d := d2) (t := y2) (u := .str "b" z2) (by (repeat (first | exact List.Mem.head _ | apply List.Mem.tail))) (by (repeat (first | exact List.Mem.head _ | apply List.Mem.tail))) ⟨_, rfl⟩, rfl⟩
  | 3, _ => exact ⟨_, _, rfl, word_one (d := d3) (t := y3) (u := .str "b\"" z3) (by (repeat (first | exact List.Mem.head _ | apply List.Mem.tail))) (by (repeat (first | exact List.Mem.head _ | apply List.Mem.tail))) ⟨_, rfl⟩, rfl⟩
  | 4, _ => exact ⟨_, _, rfl, word_one (d := d4) (t := y4) (u := .str "\\, a" z4) (by (repeat (first | exact List.Mem.head _ | apply List.Mem.tail))) (by (repeat (first | exact List.Mem.head _ | apply List.Mem.tail))) ⟨_, rfl⟩, rfl⟩
  | 5, _ => exact ⟨_, _, rfl, word_two (d := d5) (t := y5) (u := .none) (d2 := d6) (t2 := y6) (u2 := .str "a;" z6) (by (repeat (first | exact List.Mem.head _ | apply List.Mem.tail))) (by (repeat (first | exact List.Mem.head _ | apply List.Mem.tail))) rfl (by (repeat (first | exact List.Mem.head _ | apply List.Mem.tail))) ⟨_, rfl⟩, rfl⟩

set_option maxHeartbeats 4000000 in
theorem pair_spec (w : World) (p : Program) (loose : List Str) (mean : ExcName → Option Value) (mg mb : Str → Option Value)
  (dp un : Nat) (gd : Option (List Code)) (cn : Str) (cs : Scope) (a : Addr) (ccd : Value) (cl : List (Str × Addr)) (outer : List Env) (A₀ : Around) (base h₀ : Heap) (L : Addr) (m : Str → Option Value) (news : List (Addr × Obj)) (s : Shared) 
    (x : Int) (tx : Tok) (Q E : Value → Shared → Prop)
    (B : Below A₀ base outer h₀) (F : Fr h₀ L s.heap m) (X : (hd.heap_39 w.params).In h₀) (N : News h₀ L s.heap news) (T : Top p loose mean mg mb h₀) (hk : cs.kind = .function) 
    (hdp : dp + 1 < recursionLimit) (hu : un + 16 < cLine)
    (hret : ∀ r f g h' tk' news', f < 6 → g < 6 → f ≠ g → Fr h₀ L h' m → News h₀ L h' news' → (∀ q ∈ news, q ∈ news') → Nw news news' → PairAt news' r f g → Q (.ref r) { s with heap := h', toks := tk' }) :
    wpAny (model prg w) (ktrTop dp un gd cn cs L a ccd cl outer) (call (.ref 122) [.int x tx]) Q E s := by
  w_top off
  have : (PySem.Challenge.rw_re0071_01, hd.heap_39) = (PySem.Challenge.rw_re0071_01, hd.heap_39) := by
    k_fill
    rfl
  clear this
  refine Classical.byContradiction fun hgo9 => ?_
  obtain ⟨f, g, hf, hg, hfg, ef, eg⟩ := mods x
  refine hgo9 ?_
  clear hgo9
  refine wpAny_call ?_
  k_dflt cell_enter
  (repeat' ((fail_if_success first | (with_reducible show wpAny _ _ (subscriptTail _ _ (Value.ref _) (Value.int _ _)) _ _ _)); first | (k_unfold; (try dsimp only)) | walk1 | (dsimp only; walk1)))
  rename (News _ _ _ _) => N5
  have hp := pair_at N5
  refine Classical.byContradiction fun hgo9 => ?_
  obtain ⟨v1, t1, h1, w1, e1⟩ := hp f hf
  obtain ⟨v2, t2, h2, w2, e2⟩ := hp g hg
  refine hgo9 ?_
  clear hgo9
  refine item_K v1 N5 (by (repeat (first | exact List.Mem.head _ | apply List.Mem.tail))) (by omega) (by omega) (by rw [ef, Int.toNat_natCast]; exact h1) ?_
  (repeat' ((fail_if_success first | (with_reducible show wpAny _ _ (subscriptTail _ _ (Value.ref _) (Value.int _ _)) _ _ _)); first | (k_unfold; (try dsimp only)) | walk1 | (dsimp only; walk1)))
  refine item_K (.str (txt f) t1) (by k_asm) (by (repeat (first | exact List.Mem.head _ | apply List.Mem.tail))) (by omega) (by omega) (by rw [ef, Int.toNat_natCast]; exact e1) ?_
  (repeat' ((fail_if_success first | (with_reducible show wpAny _ _ (subscriptTail _ _ (Value.ref _) (Value.int _ _)) _ _ _)); first | (k_unfold; (try dsimp only)) | walk1 | (dsimp only; walk1)))
  rename (News _ _ _ _) => N6
  refine item_K v2 N6 (by (repeat (first | exact List.Mem.head _ | apply List.Mem.tail))) (by omega) (by omega) (by rw [eg, Int.toNat_natCast]; exact h2) ?_
  (repeat' ((fail_if_success first | (with_reducible show wpAny _ _ (subscriptTail _ _ (Value.ref _) (Value.int _ _)) _ _ _)); first | (k_unfold; (try dsimp only)) | walk1 | (dsimp only; walk1)))
  refine item_K (.str (txt g) t2) N6 (by (repeat (first | exact List.Mem.head _ | apply List.Mem.tail))) (by omega) (by omega) (by rw [eg, Int.toNat_natCast]; exact e2) ?_
  (repeat' ((fail_if_success first | (with_reducible show wpAny _ _ (subscriptTail _ _ (Value.ref _) (Value.int _ _)) _ _ _)); first | (k_unfold; (try dsimp only)) | walk1 | (dsimp only; walk1)))
  rename (News h₀ L _ _) => N7
  exact hret _ f g _ _ _ hf hg hfg (by k_asm) N7 (by ((intro q9 hq9; repeat (first | exact hq9 | apply List.mem_cons_of_mem)))) (by (repeat (first | exact Nw.refl _ | refine Nw.add ?_ (.inr (ne_lt (by dsimp only; assumption))) | refine Nw.add ?_ (.inr (ne_lt (allLt_mem (by (first | assumption | (apply And.right; (first | assumption | (apply And.right; (first | assumption | (apply And.right; (first | assumption | (apply And.right; (first | assumption | (apply And.right; (first | assumption | (apply And.right; (first | assumption | (apply And.right; (first | assumption | (apply And.right; (first | assumption | (apply And.right; (first | assumption | (apply And.right; (first | assumption | (apply And.right; (first | assumption | (apply And.right; (first | assumption | (apply And.right; (first | assumption | (apply And.right; (first | assumption | (apply And.right; (first | assumption | (apply And.right; (first | assumption | (apply And.right; (first | assumption | (apply And.right; (first | assumption | (apply And.right; (first | assumption | (apply And.right; (first | assumption | (apply And.right; (first | assumption | (apply And.right; (first | assumption | (apply And.right; (first | assumption | (apply And.right; fail))))))))))))))))))))))))))))))))))))))))))))))))))))))) ⟨_, _, 0, v1, t1, 0, v2, t2, 0, .head _, .tail _ (.tail _ (.head _)), .tail _ (.head _), w1.mono (by ((intro q9 hq9; repeat (first | exact hq9 | apply List.mem_cons_of_mem)))), w2.mono (by ((intro q9 hq9; repeat (first | exact hq9 | apply List.mem_cons_of_mem))))⟩
end

-- part Km
section
abbrev asInts (row : List Nat) : List Int := row.map fun (n : Nat) => (n : Int)
def RowAt (news : List (Addr × Obj)) (r : Addr) (row : List Nat) : Prop := ∃ ys e, (r, lstO ys e) ∈ news ∧ IntsAre ys (asInts row)
theorem RowAt.mono {n n' : List (Addr × Obj)} {r : Addr} {row : List Nat} (h : ∀ p ∈ n, p ∈ n') : RowAt n r row → RowAt n' r row
  | ⟨ys, e, h1, h2⟩ => ⟨ys, e, h _ h1, h2⟩
theorem off1_ne {d : Addr} {l : List (Addr × Obj)} (h : LCg.Off1 d l) : ∀ p ∈ l, p.1 ≠ d := by
  induction l with
  | nil => intro p hp; cases hp
  | cons a r ih =>
    intro p hp
    rcases List.mem_cons.mp hp with e | hp
    · rw [e]; exact h.1
    · exact ih h.2 p hp
theorem row_bits (x : Int) {ys : List Value} (h : IntsAre ys (List.map (fun k' => if 0 ≤ (x.fdiv 3).fmod 8 ∧ (x.fdiv 3).fmod 8 < 8 then (((x.fdiv 3).fmod 8).fdiv (2 ^ k'.toNat)).fmod 2 else k') (rangeKs 0 (1 + x.fmod 3 - 0).toNat))) :
    ∃ row : List Nat, 1 ≤ row.length ∧ row.length ≤ 3 ∧ (∀ b ∈ row, b < 2) ∧ IntsAre ys (asInts row) := by
  have h1 : 0 ≤ x.fmod 3 := Int.fmod_nonneg_of_pos _ (by decide)
  have h2 : x.fmod 3 < 3 := Int.fmod_lt_of_pos _ (by decide)
  have h3 : 0 ≤ (x.fdiv 3).fmod 8 := Int.fmod_nonneg_of_pos _ (by decide)
  have h4 : (x.fdiv 3).fmod 8 < 8 := Int.fmod_lt_of_pos _ (by decide)
  refine ⟨(rangeKs 0 (1 + x.fmod 3 - 0).toNat).map fun k => ((((x.fdiv 3).fmod 8).fdiv (2 ^ k.toNat)).fmod 2).toNat, ?_, ?_, ?_, ?_⟩
  · rw [List.length_map, rangeKs_length]; omega
  · rw [List.length_map, rangeKs_length]; omega
  · intro b hb
    obtain ⟨k, _, rfl⟩ := List.mem_map.mp hb
    have q1 : (((x.fdiv 3).fmod 8).fdiv (2 ^ k.toNat)).fmod 2 < 2 := Int.fmod_lt_of_pos _ (by decide)
    omega
  · have e : asInts ((rangeKs 0 (1 + x.fmod 3 - 0).toNat).map fun k => ((((x.fdiv 3).fmod 8).fdiv (2 ^ k.toNat)).fmod 2).toNat) = List.map (fun k' => if 0 ≤ (x.fdiv 3).fmod 8 ∧ (x.fdiv 3).fmod 8 < 8 then (((x.fdiv 3).fmod 8).fdiv (2 ^ k'.toNat)).fmod 2 else k') (rangeKs 0 (1 + x.fmod 3 - 0).toNat) := by
      rw [asInts, List.map_map]
      apply List.map_congr_left
      intro k _
      rw [if_pos ⟨h3, h4⟩]
      exact Int.toNat_of_nonneg (Int.fmod_nonneg_of_pos _ (by decide))
    rw [e]; exact h

set_option maxHeartbeats 4000000 in
theorem row_spec (w : World) (p : Program) (loose : List Str) (mean : ExcName → Option Value) (mg mb : Str → Option Value)
  (dp un : Nat) (gd : Option (List Code)) (cn : Str) (cs : Scope) (a : Addr) (ccd : Value) (cl : List (Str × Addr)) (outer : List Env) (A₀ : Around) (base h₀ : Heap) (L : Addr) (m : Str → Option Value) (news : List (Addr × Obj)) (s : Shared) 
    (x : Int) (tx : Tok) (Q E : Value → Shared → Prop)
    (B : Below A₀ base outer h₀) (F : Fr h₀ L s.heap m) (X : (hd.heap_39 w.params).In h₀) (N : News h₀ L s.heap news) (T : Top p loose mean mg mb h₀) (hk : cs.kind = .function) 
    (hdp : dp + 1 < recursionLimit) (hu : un + 16 < cLine)
    (hret : ∀ r row h' tk' news', 1 ≤ row.length → row.length ≤ 3 → (∀ b ∈ row, b < 2) → Fr h₀ L h' m → News h₀ L h' news' → (∀ q ∈ news, q ∈ news') → Nw news news' → RowAt news' r row → Q (.ref r) { s with heap := h', toks := tk' }) :
    wpAny (model prg w) (ktrTop dp un gd cn cs L a ccd cl outer) (call (.ref 127) [.int x tx]) Q E s := by
  w_top off
  have : (PySem.Challenge.rw_re0071_01, hd.heap_39) = (PySem.Challenge.rw_re0071_01, hd.heap_39) := by
    k_fill
    rfl
  clear this
  refine wpAny_call ?_
  k_dflt ((refine' code_defC ?k1 ?k2 ?k3 ?k4 ?k5 ?kA ?kF ?kK ?k6 ?k7 ?k8 ?k9 ?kB ?kD ?_ ?c2 ?c3 ?c4; (case kA => exact rfl); (case kF => exact rfl); (case kK => assumption); (case k1 => k_asm); (case k2 => k_asm); (case k3 => k_asm); (case k4 => k_asm); (case k5 => k_asm); (case k6 => k_is); (case k7 => k_is); (case k8 => ktr_room); (case k9 => exact BindsTo.of_eq rfl); (case kB => exact rfl); (case kD => decide +kernel); (case c2 => exact rfl); (case c3 => exact rfl); (case c4 => exact rfl); k_whole; intro g' L' h' tk' cells' FG' F' N' Y' B' X' T' l1; (try k_lt l1); k_cells Y'; (try simp only [List.cons_append, List.nil_append] at N'); (try dsimp only); (try k_lift B'); (try k_fold)))
  rename (∀ p ∈ news, p.1 < _) => l1
  have r1 : ∀ q ∈ news, @Ne Nat q.1 (_ + 1) := fun q hq => Nat.ne_of_lt (Nat.lt_succ_of_lt (l1 q hq))
  (repeat' ((fail_if_success first | (with_reducible show wpAny _ _ (subscriptTail _ _ (Value.ref _) (Value.int _ _)) _ _ _)); first | (k_unfold; (try dsimp only)) | walk1 | (dsimp only; walk1)))
  rename (News h₀ L _ _) => N7
  rename (IntsAre _ _) => hI
  rename (_ ∧ LCg.Off1 _ news) => ho
  obtain ⟨row, q1, q2, q3, q4⟩ := row_bits x hI
  exact hret _ row _ _ _ q1 q2 q3 (by k_asm) (fun q hq => N7 q (by revert q; exact List.forall_mem_cons.mpr ⟨.head _, fun q hq => .tail _ (.tail _ hq)⟩)) (fun q hq => .tail _ hq) (Nw.add (Nw.refl _) (.inr (off1_ne ho.2))) ⟨_, _, .head _, q4⟩
end

-- part Kn
section
theorem fmod_nat (c n : Nat) : ((c : Int).fmod (n : Int)).toNat = c % n := by
  rw [Int.fmod_eq_emod_of_nonneg _ (Int.natCast_nonneg n), ← Int.natCast_emod, Int.toNat_natCast]
theorem turn_list {ws : List Value} {row : List Nat} {c : Nat} (h : IntsAre ws (List.drop ((c : Int).fmod ((asInts row).length : Int)).toNat (asInts row) ++ List.take ((c : Int).fmod ((asInts row).length : Int)).toNat (asInts row))) :
    IntsAre ws (asInts (row.drop (c % row.length) ++ row.take (c % row.length))) := by
  have e : asInts (row.drop (c % row.length) ++ row.take (c % row.length)) = List.drop ((c : Int).fmod ((asInts row).length : Int)).toNat (asInts row) ++ List.take ((c : Int).fmod ((asInts row).length : Int)).toNat (asInts row) := by
    rw [fmod_nat, List.length_map, asInts, List.map_append, List.map_drop, List.map_take]
  rw [e]; exact h
set_option maxHeartbeats 4000000 in
theorem turned_spec (w : World) (p : Program) (loose : List Str) (mean : ExcName → Option Value) (mg mb : Str → Option Value)
  (dp un : Nat) (gd : Option (List Code)) (cn : Str) (cs : Scope) (a : Addr) (ccd : Value) (cl : List (Str × Addr)) (outer : List Env) (A₀ : Around) (base h₀ : Heap) (L : Addr) (m : Str → Option Value) (news : List (Addr × Obj)) (s : Shared) 
    (r : Addr) (row : List Nat) (c : Nat) (tx : Tok) (Q E : Value → Shared → Prop)
    (B : Below A₀ base outer h₀) (F : Fr h₀ L s.heap m) (X : (hd.heap_39 w.params).In h₀) (N : News h₀ L s.heap news) (T : Top p loose mean mg mb h₀) (hk : cs.kind = .function) 
    (hR : RowAt news r row) (h1 : 1 ≤ row.length) (h3 : row.length ≤ 3) (hdp : dp + 1 < recursionLimit) (hu : un + 16 < cLine)
    (hret : ∀ r' h' tk' news', Fr h₀ L h' m → News h₀ L h' news' → (∀ q ∈ news, q ∈ news') → Nw news news' → RowAt news' r' (row.drop (c % row.length) ++ row.take (c % row.length)) → Q (.ref r') { s with heap := h', toks := tk' }) :
    wpAny (model prg w) (ktrTop dp un gd cn cs L a ccd cl outer) (call (.ref 134) [.ref r, .int c tx]) Q E s := by
  w_top off
  have : (PySem.Challenge.rw_re0071_01, hd.heap_39) = (PySem.Challenge.rw_re0071_01, hd.heap_39) := by
    k_fill
    rfl
  clear this
  obtain ⟨ys, e, hm, hI⟩ := hR
  have hyl : ys.length = row.length := by have := IntsAre.length hI; simpa using this
  replace N := news_cons N hm
  refine wpAny_call ?_
  k_dflt cell_enter
  (repeat' (first | (k_unfold; (try dsimp only)) | walk1 | (dsimp only; walk1)))
  · rename (((asInts row).length : Int) = 0) => hz
    simp at hz; subst hz; simp at h1
  · exfalso
    rename (Int.fmod _ _ < 0) => hz
    have := Int.fmod_nonneg_of_pos (c : Int) (b := ((asInts row).length : Int)) (by simp; omega)
    omega
  · rename (News h₀ L _ _) => N7
    rename (IntsAre _ (_ ++ _)) => hI2
    rename (_ ∧ _ ∧ _ ∧ AllLt _ news) => l1
    exact hret _ _ _ _ (by k_asm) (fun q hq => N7 q (by revert q; exact List.forall_mem_cons.mpr ⟨.head _, fun q hq => .tail _ (.tail _ (.tail _ (.tail _ hq)))⟩)) (fun q hq => .tail _ hq) (Nw.add (Nw.refl _) (.inr (ne_lt (allLt_mem l1.2.2.2)))) ⟨_, _, .head _, turn_list hI2⟩
end

-- part Ko
section
theorem ints_at : ∀ {ys : List Value} {row : List Nat} {k : Nat}, IntsAre ys (asInts row) → k < row.length → ∃ b t, b ∈ row ∧ row[k]? = some b ∧ ys[k]? = some (.int (b : Int) t)
  | _, [], _, _, h => by simp at h
  | _, b :: row, 0, .cons _ t hI, _ => ⟨b, t, .head _, rfl, rfl⟩
  | _, b :: row, k + 1, .cons _ t hI, h => by
    obtain ⟨b', t', h1, h2, h3⟩ := ints_at (k := k) hI (by simpa using h)
    exact ⟨b', t', .tail _ h1, h2, h3⟩
theorem changed_list {ws : List Value} {row : List Nat} {z : Int} {b : Nat} (h0 : 0 ≤ z) (hz : z < row.length) (hb : ∀ b ∈ row, b < 2) (hbm : b ∈ row) (h : IntsAre ws (List.take z.toNat (asInts row) ++ [1 - (b : Int)] ++ List.drop (z + 1).toNat (asInts row))) :
    ∃ row' : List Nat, row'.length = row.length ∧ (∀ b ∈ row', b < 2) ∧ IntsAre ws (asInts row') := by
  have hb2 := hb b hbm
  refine ⟨row.take z.toNat ++ [1 - b] ++ row.drop (z + 1).toNat, ?_, ?_, ?_⟩
  · simp only [List.length_append, List.length_take, List.length_drop, List.length_singleton]; omega
  · intro c hc
    simp only [List.mem_append, List.mem_singleton] at hc
    rcases hc with (hc | hc) | hc
    · exact hb c (List.mem_of_mem_take hc)
    · omega
    · exact hb c (List.mem_of_mem_drop hc)
  · have e : asInts (row.take z.toNat ++ [1 - b] ++ row.drop (z + 1).toNat) = List.take z.toNat (asInts row) ++ [1 - (b : Int)] ++ List.drop (z + 1).toNat (asInts row) := by
      have e1 : ((1 - b : Nat) : Int) = 1 - (b : Int) := by omega
      simp only [asInts, List.map_append, List.map_cons, List.map_nil, List.map_drop, List.map_take, e1]
    rw [e]; exact h
theorem pick_at (ys : List Value) (n : Nat) : kms_pick ys.toArray.toList (some ((n : Int) + 1)) none = ys.drop (n + 1) := by
  have e : (n : Int) + 1 = ((n + 1 : Nat) : Int) := rfl
  rw [e]
  generalize n + 1 = k
  unfold kms_pick kms_lo kms_hi
  simp only [List.toArray, Int.toNat_natCast]
  rw [if_neg (by omega)]
  rw [List.take_of_length_le (by rw [List.length_drop]; omega)]
  rcases Nat.le_total k ys.length with h | h
  · rw [Nat.min_eq_left h]
  · rw [Nat.min_eq_right h, List.drop_eq_nil_of_le (Nat.le_refl _), List.drop_eq_nil_of_le h]
theorem ints_drop : ∀ {ys : List Value} {l : List Int} (k : Nat), IntsAre ys l → IntsAre (ys.drop k) (l.drop k)
  | _, _, 0, h => h
  | _, _, _ + 1, .nil => .nil
  | _, _, k + 1, .cons _ _ h => ints_drop k h
set_option maxHeartbeats 4000000 in
theorem changed_spec (w : World) (p : Program) (loose : List Str) (mean : ExcName → Option Value) (mg mb : Str → Option Value)
  (dp un : Nat) (gd : Option (List Code)) (cn : Str) (cs : Scope) (a : Addr) (ccd : Value) (cl : List (Str × Addr)) (outer : List Env) (A₀ : Around) (base h₀ : Heap) (L : Addr) (m : Str → Option Value) (news : List (Addr × Obj)) (s : Shared) 
    (r : Addr) (row : List Nat) (x : Int) (tx : Tok) (Q E : Value → Shared → Prop)
    (B : Below A₀ base outer h₀) (F : Fr h₀ L s.heap m) (X : (hd.heap_39 w.params).In h₀) (N : News h₀ L s.heap news) (T : Top p loose mean mg mb h₀) (hk : cs.kind = .function) 
    (hR : RowAt news r row) (h1 : 1 ≤ row.length) (h3 : row.length ≤ 3) (hb : ∀ b ∈ row, b < 2) (hdp : dp + 1 < recursionLimit) (hu : un + 16 < cLine)
    (hret : ∀ r' row' h' tk' news', row'.length = row.length → (∀ b ∈ row', b < 2) → Fr h₀ L h' m → News h₀ L h' news' → (∀ q ∈ news, q ∈ news') → Nw news news' → RowAt news' r' row' → Q (.ref r') { s with heap := h', toks := tk' }) :
    wpAny (model prg w) (ktrTop dp un gd cn cs L a ccd cl outer) (call (.ref 141) [.ref r, .int x tx]) Q E s := by
  w_top off
  have : (PySem.Challenge.rw_re0071_01, hd.heap_39) = (PySem.Challenge.rw_re0071_01, hd.heap_39) := by
    k_fill
    rfl
  clear this
  have hR' := hR
  refine Classical.byContradiction fun hgo9 => ?_
  obtain ⟨ys, e, hm, hI⟩ := hR
  refine hgo9 ?_
  clear hgo9
  have hyl : ys.length = row.length := by have := IntsAre.length hI; simpa using this
  replace N := news_cons N hm
  refine wpAny_call ?_
  k_dflt cell_enter
  (repeat' ((fail_if_success first | (with_reducible show wpAny _ _ (subscriptTail _ _ (Value.ref _) (Value.int _ _)) _ _ _)); first | (k_unfold; (try dsimp only)) | walk1 | (dsimp only; walk1)))
  · rename (News h₀ L _ _) => N7
    exact hret r row _ _ _ rfl hb (by k_asm) (fun q hq => N7 q (.tail _ hq)) (fun q hq => hq) (Nw.refl _) hR'
  · rename (((asInts row).length : Int) = 0) => hz
    simp at hz; subst hz; simp at h1
  · exfalso
    rename (Int.fmod _ _ < 0) => hz
    have := Int.fmod_nonneg_of_pos (x.fdiv 9) (b := ((asInts row).length : Int)) (by simp; omega)
    omega
  · have k1 := Int.fmod_nonneg_of_pos (x.fdiv 9) (b := ((asInts row).length : Int)) (by simp; omega)
    have k2 := Int.fmod_lt_of_pos (x.fdiv 9) (b := ((asInts row).length : Int)) (by simp; omega)
    have k3 : (((asInts row).length : Nat) : Int) = row.length := by simp
    refine Classical.byContradiction fun hgo9 => ?_
    obtain ⟨b, t, hbm, hb1, hb2⟩ := ints_at (k := ((x.fdiv 9).fmod ((asInts row).length : Int)).toNat) hI (by omega)
    refine hgo9 ?_
    clear hgo9
    generalize (x.fdiv 9).fmod ((asInts row).length : Int) = kk at *
    obtain ⟨n, rfl⟩ : ∃ n : Nat, kk = (n : Int) := ⟨kk.toNat, by omega⟩
    refine item_K (.int (b : Int) t) (by k_asm) (.tail _ (.head _)) k1 (by omega) hb2 ?_
    (repeat' ((fail_if_success first | (with_reducible show wpAny _ _ (subscriptTail _ (PySem.Expr.Slice (some _) _ _ _) (Value.ref _) (Value.ref _)) _ _ _)); first | (k_unfold; (try dsimp only)) | walk1 | (dsimp only; walk1)))
    rename (News _ _ _ _) => N5
    k_dflt (refine' kms_slice_lit (its := ys.toArray) (zs := ys.drop (n + 1)) (lo := some ((n : Int) + 1)) (hi := none) ?zF ?zN ?zl ?zp ?zq ?ze ?_ ?zs ?zt ?zz)
    case zF => k_asm
    case zN => exact N5
    case zl => exact ⟨lstO ys e, (N5 (r, lstO ys e) (.tail _ (.tail _ (.tail _ (.head _))))).1, rfl, e, rfl⟩
    case zp => exact IsPart.int _ _
    case zq => exact IsPart.none
    case ze => exact pick_at ys n
    case zs => with_unfolding_all rfl
    case zt => kmk_pure
    case zz => rw [List.size_toArray, sizeLine_eq]; omega
    intro D7 h7 F7 N7 l7
    (try k_lt l7)
    have hdr := ints_drop (n + 1) hI
    (repeat' ((fail_if_success first | (with_reducible show wpAny _ _ (subscriptTail _ _ (Value.ref _) (Value.int _ _)) _ _ _)); first | (k_unfold; (try dsimp only)) | walk1 | (dsimp only; walk1)))
    rename (News h₀ L _ _) => N7
    rename (IntsAre _ (_ ++ _ ++ _)) => hI2
    rename (_ ∧ _ ∧ _ ∧ _ ∧ _ ∧ AllLt _ news) => l1
    refine Classical.byContradiction fun hgo9 => ?_
    obtain ⟨row', q1, q2, q3⟩ := changed_list k1 (by omega) hb hbm hI2
    refine hgo9 ?_
    clear hgo9
    exact hret _ row' _ _ _ q1 q2 (by k_asm) (fun q hq => N7 q (by revert q; exact List.forall_mem_cons.mpr ⟨.head _, fun q hq => .tail _ (.tail _ (.tail _ (.tail _ (.tail _ (.tail _ hq)))))⟩)) (fun q hq => .tail _ hq) (Nw.add (Nw.refl _) (.inr (ne_lt (allLt_mem l1.2.2.2.2.2)))) ⟨_, _, .head _, q3⟩
end

-- part Kr
section
set_option maxHeartbeats 4000000 in
theorem eq_spec (w : World) (p : Program) (loose : List Str) (mean : ExcName → Option Value) (mg mb : Str → Option Value)
  (dp un : Nat) (gd : Option (List Code)) (cn : Str) (cs : Scope) (a : Addr) (ccd : Value) (cl : List (Str × Addr)) (outer : List Env) (A₀ : Around) (base h₀ : Heap) (L : Addr) (m : Str → Option Value) (news : List (Addr × Obj)) (s : Shared) 
    (x y : Str) (tx ty : Tok) (Q E : Value → Shared → Prop)
    (B : Below A₀ base outer h₀) (F : Fr h₀ L s.heap m) (X : (hd.heap_39 w.params).In h₀) (N : News h₀ L s.heap news) (T : Top p loose mean mg mb h₀) (hk : cs.kind = .function) 
    (hdp : dp + 1 < recursionLimit) (hu : un + 16 < cLine)
    (hret : ∀ h' tk', Fr h₀ L h' m → News h₀ L h' news → Q (.bool (x == y)) { s with heap := h', toks := tk' }) :
    wpAny (model prg w) (ktrTop dp un gd cn cs L a ccd cl outer) (call (.ref 94) [.str x tx, .str y ty]) Q E s := by
  w_top off
  have : (PySem.Challenge.rw_re0071_01, hd.heap_39) = (PySem.Challenge.rw_re0071_01, hd.heap_39) := by
    k_fill
    rfl
  clear this
  refine wpAny_call ?_
  k_dflt cell_enter
  (repeat' ((fail_if_success first | (with_reducible show wpAny _ _ (subscriptTail _ _ (Value.ref _) (Value.int _ _)) _ _ _)); first | (k_unfold; (try dsimp only)) | walk1 | (dsimp only; walk1)))
  exact hret _ _ (by k_asm) (by k_asm)
end

-- part Kc
section
set_option maxHeartbeats 4000000 in
theorem concat_spec (w : World) (p : Program) (loose : List Str) (mean : ExcName → Option Value) (mg mb : Str → Option Value)
  (dp un : Nat) (gd : Option (List Code)) (cn : Str) (cs : Scope) (a : Addr) (ccd : Value) (cl : List (Str × Addr)) (outer : List Env) (A₀ : Around) (base h₀ : Heap) (L : Addr) (m : Str → Option Value) (news : List (Addr × Obj)) (s : Shared) 
    (r1 r2 : Addr) (ys zs : List Value) (e1 e2 : Nat) (Q E : Value → Shared → Prop)
    (B : Below A₀ base outer h₀) (F : Fr h₀ L s.heap m) (X : (hd.heap_39 w.params).In h₀) (N : News h₀ L s.heap news) (T : Top p loose mean mg mb h₀) (hk : cs.kind = .function) 
    (h1 : (r1, lstO ys e1) ∈ news) (h2 : (r2, lstO zs e2) ∈ news) (hl1 : ys.length ≤ 2 ^ 18) (hl2 : zs.length ≤ 2 ^ 18) (hdp : dp + 1 < recursionLimit) (hu : un + 16 < cLine)
    (hret : ∀ r h' tk', Fr h₀ L h' m → News h₀ L h' ((r, lstO (ys ++ zs) 0) :: news) → (∀ q ∈ news, q.1 < r) → Q (.ref r) { s with heap := h', toks := tk' }) :
    wpAny (model prg w) (ktrTop dp un gd cn cs L a ccd cl outer) (call (.ref 101) [.ref r1, .ref r2]) Q E s := by
  w_top off
  have : (PySem.Challenge.rw_re0071_01, hd.heap_39) = (PySem.Challenge.rw_re0071_01, hd.heap_39) := by
    k_fill
    rfl
  clear this
  replace N := news_cons N h1
  refine wpAny_call ?_
  k_dflt cell_enter
  (repeat' ((fail_if_success first | (with_reducible show wpAny _ _ (call (Value.builtin "hasattr") _) _ _ _) | (with_reducible show wpAny _ _ (binaryOp _ (Value.ref _) (Value.ref _)) _ _ _)); first | (k_unfold; (try dsimp only)) | walk1 | (dsimp only; walk1)))
  refine hasattr_K (by k_asm) (by k_asm) (.head _) ?_
  intro h3 tk3 F3 N3
  (repeat' ((fail_if_success first | (with_reducible show wpAny _ _ (call (Value.builtin "hasattr") _) _ _ _) | (with_reducible show wpAny _ _ (binaryOp _ (Value.ref _) (Value.ref _)) _ _ _)); first | (k_unfold; (try dsimp only)) | walk1 | (dsimp only; walk1)))
  rename (News _ _ _ ((r1, _) :: _)) => N4
  refine add_arrays (its := ys.toArray) (its2 := zs.toArray) (by k_asm) (by k_asm) ⟨_, (N4 _ (.head _)).1, rfl, e1, rfl⟩ ⟨_, (N4 _ (.tail _ h2)).1, rfl, e2, rfl⟩ ?_ (by rw [List.size_toArray, List.size_toArray, sizeLine_eq]; omega)
  intro h5 F5 N5
  have hlt : ∀ q ∈ news, q.1 < _ := fun q hq => Heap.lt_size (N4 q (.tail _ hq)).1
  (repeat' ((fail_if_success first | (with_reducible show wpAny _ _ (call (Value.builtin "hasattr") _) _ _ _) | (with_reducible show wpAny _ _ (binaryOp _ (Value.ref _) (Value.ref _)) _ _ _)); first | (k_unfold; (try dsimp only)) | walk1 | (dsimp only; walk1)))
  exact hret _ _ _ (by k_asm) (fun q hq => by
    rename (News h₀ L _ _) => N6
    exact N6 q (by revert q; exact List.forall_mem_cons.mpr ⟨.head _, fun q hq => .tail _ (.tail _ hq)⟩)) hlt
end

-- part Lc
section
def Off4 (I C c D : Addr) (news : List (Addr × Obj)) : Prop := ∀ p ∈ news, p.1 ≠ I ∧ p.1 ≠ C ∧ p.1 ≠ c ∧ p.1 ≠ D
def cellO (v : Option Value) : Obj := { cls := .type "cell", data := .cell v }
/-- a turn of a comprehension over a range whose variable lies in a cell -/
def RcEnd (h₀ : Heap) (L : Addr) (m : Str → Option Value) (s₁ : Shared) (I C c D : Addr) (oI oC oc oD : Obj) (J : Value → List (Addr × Obj) → Prop) (y : Value) (s₂ : Shared) : Prop :=
  ∃ h' tk news', s₂ = { s₁ with heap := h', toks := tk } ∧ Fr h₀ L h' m ∧ News h₀ L h' ((I, oI) :: (C, oC) :: (c, oc) :: (D, oD) :: news') ∧ Off4 I C c D news' ∧ J y news'
section
variable {prog : Program} {w : World} {A : Around} {E : Value → Shared → Prop} {s : Shared} {h₀ : Heap} {L : Addr} {m : Str → Option Value} {env : Env}
theorem rc_loop {elt iter : Expr} {x : Str} {px : Pos} {scope : Scope} {cl : List (Str × Addr)} {pos : Pos} {R : Result → Shared → Prop} {I C c D : Addr} {a : Int} {n : Nat} (J : Nat → List Value → List (Addr × Obj) → Prop)
    (hh : A.handled = none) (hsz : n ≤ sizeLine) (hk : (compEnvC scope ((x, c) :: cl) C env).scope.kind = .function) (hx : (compEnvC scope ((x, c) :: cl) C env).kindOf x = some .cell)
    (d1 : I ≠ C) (d2 : I ≠ c) (d3 : I ≠ D) (d4 : C ≠ c) (d5 : C ≠ D) (d6 : c ≠ D)
    (turn : ∀ i ys news v oI oC oc h tk (E' : Value → Shared → Prop), i < n → J i ys news → (∃ t, v = .int (a + (i : Int)) t) → oc.data = .cell (some v) → Fr h₀ L h m → News h₀ L h ((I, oI) :: (C, oC) :: (c, oc) :: (D, LCg.lst ys) :: news) → Off4 I C c D news →
      wpAny (model prog w) A (eval elt (compEnvC scope ((x, c) :: cl) C env)) (RcEnd h₀ L m { s with heap := h, toks := tk } I C c D oI oC oc (LCg.lst ys) fun y news' => J (i + 1) (ys ++ [y]) news') E' { s with heap := h, toks := tk })
    (fin : ∀ ys news oC oc h tk m₂, J n ys news → LCg.NsObj oC m₂ → Fr h₀ L h m → News h₀ L h ((C, oC) :: (c, oc) :: (D, LCg.lst ys) :: news) → Off4 I C c D news → R (.ok .next) { s with heap := h, toks := tk })
    {oC oc : Obj} {m₂ : Str → Option Value} {v₀ : Option Value} {h₁ : Heap} {tk₁ : Nat} {news : List (Addr × Obj)} {oI : Obj} (hj : J 0 [] news) (hst : IsRangeIter h₁ I (a + ((0 : Nat) : Int) * 1) ((n : Int) - ((0 : Nat) : Int)) 1) (hoC : LCg.NsObj oC m₂) (hoc : oc.data = .cell v₀) (F : Fr h₀ L h₁ m) (N : News h₀ L h₁ ((I, oI) :: (C, oC) :: (c, oc) :: (D, LCg.lst []) :: news)) (off : Off4 I C c D news) :
    codeAny (model prog w) A (.compLoop (.ListComp elt [⟨.Name x px, iter, [], 0⟩] scope pos) 0 (.ref I) (.ref D) (compEnvC scope ((x, c) :: cl) C env)) R { s with heap := h₁, toks := tk₁ } := by
  have W := LCg.range_walks (prog := prog) (w := w) (I := I) hh a n
  refine codeAny_compLoop_tests (fun k s' => ∃ h' tk i ys oI oC oc m₂ v₀ news', s' = { s with heap := h', toks := tk } ∧ i ≤ n ∧ k = n + 1 - i ∧ ys.length = i ∧ IsRangeIter h' I (a + (i : Nat) * 1) ((n : Int) - (i : Nat)) 1 ∧ LCg.NsObj oC m₂ ∧ oc.data = .cell v₀ ∧
    Fr h₀ L h' m ∧ News h₀ L h' ((I, oI) :: (C, oC) :: (c, oc) :: (D, LCg.lst ys) :: news') ∧ Off4 I C c D news' ∧ J i ys news') ?_ (n + 1) ⟨h₁, tk₁, 0, [], oI, oC, oc, m₂, v₀, news, rfl, Nat.zero_le _, rfl, rfl, hst, hoC, hoc, F, N, off, hj⟩
  rintro k s' ⟨h', tk, i, ys, oI, oC, oc, m₂, v₀, news', rfl, hi, rfl, hyl, hst', hoC', hoc', F', N', off', hJ⟩
  have nI := N' _ (.head _)
  have nC := N' _ (.tail _ (.head _))
  have nc := N' _ (.tail _ (.tail _ (.head _)))
  have nD := N' _ (.tail _ (.tail _ (.tail _ (.head _))))
  have others : ∀ p ∈ news', p ∈ (I, oI) :: (C, oC) :: (c, oc) :: (D, LCg.lst ys) :: news' := fun p hp => .tail _ (.tail _ (.tail _ (.tail _ hp)))
  by_cases hlt : i < n
  · refine W.item i _ _ _ hlt hst' fun v h₂ tk₂ hPv hst₂ hk₂ => ?_
    have keep2 : ∀ b o, b ≠ I → h'.get? b = some o → h₂.get? b = some o := fun b o hb e => hk₂ b o (by simpa using hb) e
    have c2 := keep2 _ _ d2.symm nc.1
    refine wpAny_assign_Name (wpAny_storeName_cell (c := c) (v₀ := v₀) hk hx (by simp [compEnvC]) ⟨oc, c2, hoc'⟩ fun h₃ hc₃ hs₃ => ?_)
    refine wpAny_tests_nil ?_
    simp only [if_true]
    obtain ⟨oc₃, ec₃, dc₃⟩ := hc₃
    have hst₃ : IsRangeIter h₃ I (a + ((i + 1 : Nat) : Int) * 1) ((n : Int) - ((i + 1 : Nat) : Int)) 1 := W.frame _ _ _ hst₂ fun b hb o e => hs₃.extBut b o (by rw [List.mem_singleton.mp hb]; exact d2) e
    have hI3 : ∃ oI₃, h₃.get? I = some oI₃ := ⟨_, hst₃⟩
    obtain ⟨oI₃, eI₃⟩ := hI3
    have F₃ : Fr h₀ L h₃ m := (LCg.fr_but F' hk₂ nI.2.1.symm nI.2.2).change hs₃ nc.2.1 nc.2.2
    have N₃ : News h₀ L h₃ ((I, oI₃) :: (C, oC) :: (c, oc₃) :: (D, LCg.lst ys) :: news') := by
      intro p hp
      simp only [List.mem_cons] at hp
      rcases hp with rfl | rfl | rfl | rfl | hp
      · exact ⟨eI₃, nI.2⟩
      · exact ⟨hs₃.extBut _ _ d4 (keep2 _ _ d1.symm nC.1), nC.2⟩
      · exact ⟨ec₃, nc.2⟩
      · exact ⟨hs₃.extBut _ _ d6.symm (keep2 _ _ d3.symm nD.1), nD.2⟩
      · have z := N' p (others p hp)
        exact ⟨hs₃.extBut _ _ (off' p hp).2.2.1 (keep2 _ _ (off' p hp).1 z.1), z.2⟩
    refine wpAny_mono (turn i ys news' v oI₃ oC oc₃ h₃ tk₂ _ hlt hJ hPv dc₃ F₃ N₃ off') (fun y s₄ h₄ => ?_) fun _ _ e => e
    obtain ⟨h₄, tk₄, news₄, rfl, F₄, N₄, off₄, J₄⟩ := h₄
    have zI := N₄ _ (.head _)
    have zC := N₄ _ (.tail _ (.head _))
    have zc := N₄ _ (.tail _ (.tail _ (.head _)))
    have zD := N₄ _ (.tail _ (.tail _ (.tail _ (.head _))))
    refine append_at (hsz := by show ys.toArray.size ≤ sizeLine; rw [List.size_toArray, hyl]; exact Nat.le_trans hi hsz) zD.1 fun h₅ hs₅ hD₅ => ?_
    have st₄ : IsRangeIter h₄ I (a + ((i + 1 : Nat) : Int) * 1) ((n : Int) - ((i + 1 : Nat) : Int)) 1 := by
      have st' : h₃.get? I = some _ := hst₃
      rw [eI₃] at st'
      show h₄.get? I = some _
      rw [zI.1, st']
    refine ⟨n + 1 - (i + 1), by omega, h₅, tk₄, i + 1, ys ++ [y], oI₃, oC, oc₃, m₂, some v, news₄, rfl, hlt, rfl, by rw [List.length_append, List.length_singleton, hyl], W.frame _ _ _ st₄ fun b hb o e => hs₅.extBut b o (by rw [List.mem_singleton.mp hb]; exact d3) e, hoC', dc₃, F₄.change hs₅ zD.2.1 zD.2.2, ?_, off₄, J₄⟩
    intro p hp
    simp only [List.mem_cons] at hp
    rcases hp with rfl | rfl | rfl | rfl | hp
    · exact ⟨hs₅.extBut _ _ d3 zI.1, zI.2⟩
    · exact ⟨hs₅.extBut _ _ d5 zC.1, zC.2⟩
    · exact ⟨hs₅.extBut _ _ d6 zc.1, zc.2⟩
    · exact ⟨hD₅.trans (congrArg some (LCg.lst_snoc ys y)), zD.2⟩
    · have z := N₄ p (.tail _ (.tail _ (.tail _ (.tail _ hp))))
      exact ⟨hs₅.extBut _ _ (off₄ p hp).2.2.2 z.1, z.2⟩
  · obtain rfl : i = n := Nat.le_antisymm hi (Nat.not_lt.mp hlt)
    refine W.done _ _ _ hst' fun h₂ tk₂ hk₂ => ?_
    have keep2 : ∀ b o, b ≠ I → h'.get? b = some o → h₂.get? b = some o := fun b o hb e => hk₂ b o (by simpa using hb) e
    refine fin ys news' oC oc h₂ tk₂ m₂ hJ hoC' (LCg.fr_but F' hk₂ nI.2.1.symm nI.2.2) ?_ off'
    intro p hp
    simp only [List.mem_cons] at hp
    rcases hp with rfl | rfl | rfl | hp
    · exact ⟨keep2 _ _ d1.symm nC.1, nC.2⟩
    · exact ⟨keep2 _ _ d2.symm nc.1, nc.2⟩
    · exact ⟨keep2 _ _ d3.symm nD.1, nD.2⟩
    · have z := N' p (others p hp)
      exact ⟨keep2 _ _ (off' p hp).1 z.1, z.2⟩
def RcSrc (prog : Program) (w : World) (A : Around) (h₀ : Heap) (L : Addr) (m : Str → Option Value) (env : Env) (elt : Expr) (x : Str) (scope : Scope) (cl : List (Str × Addr)) (Q : Value → Shared → Prop) (xv : Value) (s₁ : Shared) : Prop :=
  ∃ r a b t u v n news, ∃ J : Nat → List Value → List (Addr × Obj) → Prop, xv = .ref r ∧ A.handled = none ∧ Fr h₀ L s₁.heap m ∧ News h₀ L s₁.heap news ∧ IsRange s₁.heap r a b 1 t u v ∧ Builtin.Range.small a b 1 = true ∧ Builtin.Range.rangeSize a b 1 = ((n : Nat) : Int) ∧ n ≤ sizeLine ∧ J 0 [] news ∧
      (∀ i ys news v I C c D oI oC oc h tk (E' : Value → Shared → Prop), i < n → J i ys news → (∃ t, v = .int (a + (i : Int)) t) → oc.data = .cell (some v) → Fr h₀ L h m → News h₀ L h ((I, oI) :: (C, oC) :: (c, oc) :: (D, LCg.lst ys) :: news) → Off4 I C c D news → @Ne Nat I C → @Ne Nat I c → @Ne Nat I D → @Ne Nat C c → @Ne Nat C D → @Ne Nat c D →
        wpAny (model prog w) A (eval elt (compEnvC scope ((x, c) :: cl) C env)) (RcEnd h₀ L m { s₁ with heap := h, toks := tk } I C c D oI oC oc (LCg.lst ys) fun y news' => J (i + 1) (ys ++ [y]) news') E' { s₁ with heap := h, toks := tk }) ∧
      (∀ ys news D h tk, J n ys news → Fr h₀ L h m → News h₀ L h ((D, LCg.lst ys) :: news) → (∀ p ∈ news, p.1 ≠ D) → Q (.ref D) { s₁ with heap := h, toks := tk })
theorem ListComp_RC {elt iter : Expr} {x : Str} {px : Pos} {scope : Scope} {cl : List (Str × Addr)} {pos : Pos} {Q : Value → Shared → Prop} (F₀ : Fr h₀ L s.heap m)
    (hclos : closureFor scope env = pure cl) (hcf : ∀ n, cellsFrom n scope.names cl = (x, n) :: cl) (hpc : ∀ h, pushCells h scope.names = h.push (cellO none)) (hkind : scope.kind = .function)
    (hnames : ∀ y ∈ scope.names, y.2 = .local → scope.names.lookup y.1 = some .local) (hk : ∀ c C, (compEnvC scope ((x, c) :: cl) C env).scope.kind = .function) (hx : ∀ c C, (compEnvC scope ((x, c) :: cl) C env).kindOf x = some .cell)
    (h : wpAny (model prog w) A (eval iter env) (RcSrc prog w A h₀ L m env elt x scope cl Q) E s)
    (hs : ∀ x, foldedSetIterable iter env x = pure x := by intro _; rfl) :
    wpAny (model prog w) A (eval (.ListComp elt [⟨.Name x px, iter, [], 0⟩] scope pos) env) Q E s := by
  rw [eval_ListComp]
  refine wpAny_comprehension_free (use := none) rfl hs hclos hkind hnames (wpAny_mono h (fun xv s₁ h₁ => ?_) fun _ _ e => e)
  obtain ⟨r, a, b, t, u, v, n, news, J, rfl, hh, F, N, hr, hsm, hn, hsz, hj, turn, fin⟩ := h₁
  refine wpAny_pyIter_range hr hsm ?_
  refine wpAny_newObj_type ?_
  simp only [newFunctionEnv, Option.isSome_some, if_true]
  refine wpAny_bind (wpAny_alloc ?_)
  refine wpAny_bind (wpAny_layCells _ (fun name kind cells => by cases hkc : kind == NameKind.cell <;> simp [hkc]) _ _ _ _ ?_)
  rw [hpc, hcf]
  rw [List.forIn_nil]
  refine wpAny_bind (wpAny_pure (wpAny_pure ?_))
  have F1 := F.push { cls := Value.type "range_iterator", data := Data.fields #[rawInt a, rawInt (Range.rangeSize a b 1), rawInt 1] }
  have N1 := N.push F { cls := Value.type "range_iterator", data := Data.fields #[rawInt a, rawInt (Range.rangeSize a b 1), rawInt 1] }
  have z0 : ∀ q ∈ news, q.1 < s₁.heap.objs.size := fun q hq => Heap.lt_size (N q hq).1
  generalize hI : s₁.heap.objs.size = I at *
  generalize hH1 : s₁.heap.push { cls := Value.type "range_iterator", data := Data.fields #[rawInt a, rawInt (Range.rangeSize a b 1), rawInt 1] } = H1 at *
  have F2 := F1.push (LCg.lst [])
  have N2 := N1.push F1 (LCg.lst [])
  have e1 : H1.objs.size = I + 1 := by rw [← hH1, Heap.size_push, hI]
  dsimp only
  generalize hD : H1.objs.size = D at *
  generalize hH2 : H1.push (LCg.lst []) = H2 at *
  have e2 : H2.objs.size = D + 1 := by rw [← hH2, Heap.size_push, hD]
  have F3 := F2.push { cls := Value.type "dict", data := Data.dict #[] }
  have N3 := N2.push F2 { cls := Value.type "dict", data := Data.dict #[] }
  have ns := Heap.Ns.new H2 (.type "dict")
  generalize hC : H2.objs.size = C at *
  generalize hH3 : H2.push { cls := Value.type "dict", data := Data.dict #[] } = H3 at *
  have e3 : H3.objs.size = C + 1 := by rw [← hH3, Heap.size_push, hC]
  have F4 := F3.push (cellO none)
  have N4 := N3.push F3 (cellO none)
  generalize hc : H3.objs.size = c at *
  generalize hH4 : H3.push (cellO none) = H4 at *
  have hob : ∃ m₂, LCg.NsObj { cls := Value.type "dict", data := Data.dict #[] } m₂ := by
    obtain ⟨o, es, ep, e, r⟩ := ns
    have q := N3 _ (.head _)
    rw [q.1] at e
    cases e
    exact ⟨_, es, ep, r⟩
  obtain ⟨m₂, hob⟩ := hob
  have d1 : @Ne Nat I C := by omega
  have d2 : @Ne Nat I c := by omega
  have d3 : @Ne Nat I D := by omega
  have d4 : @Ne Nat C c := by omega
  have d5 : @Ne Nat C D := by omega
  have d6 : @Ne Nat c D := by omega
  have loop : ∀ tk, codeAny (model prog w) A (.compLoop (.ListComp elt [⟨.Name x px, iter, [], 0⟩] scope pos) 0 (.ref I) (.ref D) (compEnvC scope ((x, c) :: cl) C env)) (compPost (model prog w) A E none Q (.ref D) C) { s₁ with heap := H4, toks := tk } := by
    intro tk
    refine rc_loop (a := a) (n := n) (oc := cellO none) (v₀ := none) (oI := { cls := Value.type "range_iterator", data := Data.fields #[rawInt a, rawInt (Range.rangeSize a b 1), rawInt 1] }) J hh hsz (hk _ _) (hx _ _) d1 d2 d3 d4 d5 d6 ?_ ?_ hj ?_ hob rfl F4 (fun q hq => N4 q ?_) ?_
    · intro i ys news v oI oC oc h tk E' hi hJ hv hd F N off
      exact turn i ys news v I C c D oI oC oc h tk E' hi hJ hv hd F N off d1 d2 d3 d4 d5 d6
    · intro ys news oC oc h tk m₂ hJ ho F N off
      refine ⟨m₂, ho.ns (N _ (.head _)).1, fun h' hs' => ?_⟩
      refine fin ys news D h' tk hJ (F.change hs' (N _ (.head _)).2.1 (N _ (.head _)).2.2) (fun q hq => ?_) fun p hp => (off p hp).2.2.2
      rcases List.mem_cons.mp hq with rfl | hq
      · have z := N _ (.tail _ (.tail _ (.head _)))
        exact ⟨hs'.extBut _ _ d5.symm z.1, z.2⟩
      · have z := N q (.tail _ (.tail _ (.tail _ hq)))
        exact ⟨hs'.extBut _ _ (off q hq).2.1 z.1, z.2⟩
    · show H4.get? I = some _
      rw [(N4 _ (.tail _ (.tail _ (.tail _ (.head _))))).1, hn]
      simp
    · simp only [List.mem_cons] at hq ⊢
      rcases hq with h | h | h | h | h <;> simp [h]
    · intro q hq
      have z : @LT.lt Nat _ q.1 I := z0 q hq
      have y1 : @Ne Nat q.1 I := by omega
      have y2 : @Ne Nat q.1 C := by omega
      have y3 : @Ne Nat q.1 c := by omega
      have y4 : @Ne Nat q.1 D := by omega
      exact ⟨y1, y2, y3, y4⟩
  refine codeAny_compStart_list (loop _) ((LCg.range_walks (prog := prog) (w := w) (I := I) hh a n).self 0 _ _ _ ?_ (loop _))
  show H4.get? I = some _
  rw [(N4 _ (.tail _ (.tail _ (.tail _ (.head _))))).1, hn]
  simp
end
end

-- part Pu
section
def tl : List Nat → List Nat
  | [] => []
  | j :: r => 44 :: 32 :: J (j :: r)
theorem J_tl (i : Nat) (r : List Nat) : J (i :: r) = T i ++ tl r := by
  cases r with
  | nil => simp [J, tl]
  | cons j r => rfl
theorem tl_or (r : List Nat) : tl r = [] ∨ ∃ q, tl r = 44 :: q := by
  cases r with
  | nil => exact .inl rfl
  | cons j r => exact .inr ⟨_, rfl⟩
/-- which list a text began with -/
def rdT (l : List Nat) : Nat :=
  if l.getD 1 44 = 44 then 0 else if l.getD 1 44 = 59 then 5 else if l.getD 2 0 = 98 then 2 else if l.getD 3 0 = 34 then 1 else if l.getD 3 0 = 98 then 3 else 4
theorem rdT_T {i : Nat} (hi : i < 6) {a : List Nat} (ha : a = [] ∨ ∃ q, a = 44 :: q) : rdT (T i ++ a) = i := by
  match i, hi with
  | 0, _ => rcases ha with rfl | ⟨q, rfl⟩ <;> rfl
  | 1, _ | 2, _ | 3, _ | 4, _ | 5, _ => rfl
theorem T_free {i j : Nat} (hi : i < 6) (hj : j < 6) {a b : List Nat} (ha : a = [] ∨ ∃ q, a = 44 :: q) (hb : b = [] ∨ ∃ q, b = 44 :: q) (h : T i ++ a = T j ++ b) : i = j := by
  rw [← rdT_T hi ha, ← rdT_T hj hb, h]
theorem J_inj : ∀ {a b : List Nat}, (∀ x ∈ a, x < 6) → (∀ x ∈ b, x < 6) → a.length = b.length → J a = J b → a = b
  | [], [], _, _, _, _ => rfl
  | [], _ :: _, _, _, h, _ => by simp at h
  | _ :: _, [], _, _, h, _ => by simp at h
  | i :: r, j :: r', ha, hb, hl, h => by
    rw [J_tl, J_tl] at h
    have e := T_free (ha i (.head _)) (hb j (.head _)) (tl_or r) (tl_or r') h
    subst e
    have h2 : tl r = tl r' := List.append_cancel_left h
    have h3 : J r = J r' := by
      cases r with
      | nil =>
        cases r' with
        | nil => rfl
        | cons _ _ => simp at hl
      | cons _ _ =>
        cases r' with
        | nil => simp at hl
        | cons _ _ => simpa [tl] using h2
    rw [J_inj (fun x hx => ha x (.tail _ hx)) (fun x hx => hb x (.tail _ hx)) (by simpa using hl) h3]

/-- which of the two lists a bit tells -/
def pk (f g b : Nat) : Nat := if b = 0 then f else g
def rowText (f g : Nat) (row : List Nat) : Str := glued ", " ((row.map (pk f g)).map txt)
theorem pk_lt {f g b : Nat} (hf : f < 6) (hg : g < 6) : pk f g b < 6 := by unfold pk; split <;> assumption
theorem pk_inj {f g : Nat} (hfg : f ≠ g) : ∀ {a b : List Nat}, (∀ x ∈ a, x < 2) → (∀ x ∈ b, x < 2) → a.map (pk f g) = b.map (pk f g) → a = b
  | [], [], _, _, _ => rfl
  | [], _ :: _, _, _, h => by simp at h
  | _ :: _, [], _, _, h => by simp at h
  | x :: a, y :: b, ha, hb, h => by
    simp only [List.map_cons, List.cons.injEq] at h
    have hx := ha x (.head _)
    have hy := hb y (.head _)
    have e : x = y := by
      have h1 := h.1
      unfold pk at h1
      by_cases x0 : x = 0 <;> by_cases y0 : y = 0 <;> simp [x0, y0] at h1 <;> first | omega | exact absurd h1 hfg | exact absurd h1.symm hfg
    rw [e, pk_inj hfg (fun z hz => ha z (.tail _ hz)) (fun z hz => hb z (.tail _ hz)) h.2]
theorem st_inj {a b : List Nat} (h : st a = st b) : a = b := by
  have := congrArg (fun s => s.cps.toList) h
  simpa [st] using this
theorem rowText_eq {f g : Nat} (hf : f < 6) (hg : g < 6) (hfg : f ≠ g) {a b : List Nat} (ha : ∀ x ∈ a, x < 2) (hb : ∀ x ∈ b, x < 2) (hl : a.length = b.length) : (rowText f g a == rowText f g b) = decide (a = b) := by
  by_cases e : a = b
  · subst e; simp
  · rw [decide_eq_false e]
    rw [beq_eq_false_iff_ne]
    intro h
    apply e
    unfold rowText at h
    rw [glued_J, glued_J] at h
    have h2 := J_inj (a := a.map (pk f g)) (b := b.map (pk f g)) (fun x hx => by obtain ⟨y, _, rfl⟩ := List.mem_map.mp hx; exact pk_lt hf hg) (fun x hx => by obtain ⟨y, _, rfl⟩ := List.mem_map.mp hx; exact pk_lt hf hg) (by simpa using hl) (st_inj h)
    exact pk_inj hfg ha hb h2

/-- the rows -/
def bitsOf (m i : Nat) : List Nat := (List.range m).map fun p => i / 2 ^ (m - 1 - p) % 2
def rowsOf (m : Nat) : List (List Nat) := (List.range (2 ^ m)).map (bitsOf m)
def turnOf (row : List Nat) (c : Nat) : List Nat := row.drop (c % row.length) ++ row.take (c % row.length)
def wantOf (row : List Nat) (m : Nat) : Nat := (List.range m).foldl (fun a i => 2 * a + row.getD (i % row.length) 0) 0
def alikeOf (X Y : List Nat) (m : Nat) : List Bool := (rowsOf m).map fun Z => decide (X ++ Z = Z ++ Y)
def idxOf (bs : List Bool) : Option Nat := bs.findIdx? id
def lawOk (m : Nat) (X Y : List Nat) : Bool :=
  if Y = turnOf X m then (alikeOf X Y m).count true == 1 && idxOf (alikeOf X Y m) == some (wantOf X m) else (alikeOf X Y m).count true == 0 && idxOf (alikeOf X Y m) == none
theorem rows_mem : ∀ (n : Nat) (X : List Nat), X.length = n → (∀ b ∈ X, b < 2) → n ≤ 3 → X ∈ rowsOf n
  | 0, [], _, _, _ => by decide
  | 1, [a], _, h, _ => by
    have ha := h a (by simp)
    have : a = 0 ∨ a = 1 := by omega
    rcases this with rfl | rfl <;> decide
  | 2, [a, b], _, h, _ => by
    have ha := h a (by simp)
    have hb := h b (by simp)
    have h1 : a = 0 ∨ a = 1 := by omega
    have h2 : b = 0 ∨ b = 1 := by omega
    rcases h1 with rfl | rfl <;> rcases h2 with rfl | rfl <;> decide
  | 3, [a, b, c], _, h, _ => by
    have ha := h a (by simp)
    have hb := h b (by simp)
    have hc := h c (by simp)
    have h1 : a = 0 ∨ a = 1 := by omega
    have h2 : b = 0 ∨ b = 1 := by omega
    have h3 : c = 0 ∨ c = 1 := by omega
    rcases h1 with rfl | rfl <;> rcases h2 with rfl | rfl <;> rcases h3 with rfl | rfl <;> decide
theorem law_all : ∀ m ∈ [0, 1, 2, 3], ∀ n ∈ [1, 2, 3], ∀ X ∈ rowsOf n, ∀ Y ∈ rowsOf n, lawOk m X Y = true := by decide +kernel
theorem law_plain {m : Nat} {X Y : List Nat} (hm : m < 4) (h1 : 1 ≤ X.length) (h3 : X.length ≤ 3) (hl : Y.length = X.length) (hX : ∀ b ∈ X, b < 2) (hY : ∀ b ∈ Y, b < 2) : lawOk m X Y = true :=
  law_all m (by match m, hm with | 0, _ | 1, _ | 2, _ | 3, _ => decide) X.length (by
    have : X.length = 1 ∨ X.length = 2 ∨ X.length = 3 := by omega
    rcases this with h | h | h <;> rw [h] <;> decide) X (rows_mem _ X rfl hX h3) Y (rows_mem _ Y hl hY h3)
theorem want_all : ∀ m ∈ [0, 1, 2, 3], ∀ n ∈ [1, 2, 3], ∀ X ∈ rowsOf n, wantOf X m < 2 ^ m := by decide +kernel
theorem want_lt {m : Nat} {X : List Nat} (hm : m < 4) (h1 : 1 ≤ X.length) (h3 : X.length ≤ 3) (hX : ∀ b ∈ X, b < 2) : wantOf X m < 2 ^ m :=
  want_all m (by match m, hm with | 0, _ | 1, _ | 2, _ | 3, _ => decide) X.length (by
    have : X.length = 1 ∨ X.length = 2 ∨ X.length = 3 := by omega
    rcases this with h | h | h <;> rw [h] <;> decide) X (rows_mem _ X rfl hX h3)
theorem bits_lt {m i : Nat} : ∀ b ∈ bitsOf m i, b < 2 := by
  intro b hb
  obtain ⟨p, _, rfl⟩ := List.mem_map.mp hb
  exact Nat.mod_lt _ (by decide)
theorem bits_len (m i : Nat) : (bitsOf m i).length = m := by simp [bitsOf]
theorem rows_len (m : Nat) : (rowsOf m).length = 2 ^ m := by simp [rowsOf]
end

-- part Cx
section
/-- rows of bits in the ledger -/
def RowsIn (news : List (Addr × Obj)) : List Value → List (List Nat) → Prop
  | [], [] => True
  | v :: vs, r :: rs => (∃ a, v = .ref a ∧ RowAt news a r) ∧ RowsIn news vs rs
  | _, _ => False
theorem RowsIn.mono {n n' : List (Addr × Obj)} (h : ∀ p ∈ n, p ∈ n') : ∀ {vs : List Value} {ps : List (List Nat)}, RowsIn n vs ps → RowsIn n' vs ps
  | [], [], _ => trivial
  | _ :: _, _ :: _, ⟨⟨a, e, x⟩, r⟩ => ⟨⟨a, e, x.mono h⟩, RowsIn.mono h r⟩
theorem RowsIn.len {n : List (Addr × Obj)} : ∀ {vs : List Value} {ps : List (List Nat)}, RowsIn n vs ps → vs.length = ps.length
  | [], [], _ => rfl
  | _ :: _, _ :: _, ⟨_, r⟩ => by simp [r.len]
theorem RowsIn.snoc {n : List (Addr × Obj)} {a : Addr} {r : List Nat} (hr : RowAt n a r) : ∀ {vs : List Value} {ps : List (List Nat)}, RowsIn n vs ps → RowsIn n (vs ++ [.ref a]) (ps ++ [r])
  | [], [], _ => ⟨⟨a, rfl, hr⟩, trivial⟩
  | _ :: _, _ :: _, ⟨x, q⟩ => ⟨x, q.snoc hr⟩
theorem RowsIn.at {n : List (Addr × Obj)} : ∀ {vs : List Value} {ps : List (List Nat)} {i : Nat} {v : Value}, RowsIn n vs ps → vs[i]? = some v → ∃ a p, v = .ref a ∧ ps[i]? = some p ∧ RowAt n a p
  | _ :: _, p :: _, 0, v, ⟨⟨a, e, x⟩, _⟩, h => by cases h; exact ⟨a, p, e, rfl, x⟩
  | _ :: _, _ :: _, i + 1, v, ⟨_, r⟩, h => r.at (i := i) h
theorem RowsIn.get {n : List (Addr × Obj)} : ∀ {vs : List Value} {ps : List (List Nat)} {i : Nat} {p : List Nat}, RowsIn n vs ps → ps[i]? = some p → ∃ a, vs[i]? = some (.ref a) ∧ RowAt n a p
  | [], [], _, _, _, h => by simp at h
  | _ :: _, p :: _, 0, _, ⟨⟨a, e, x⟩, _⟩, h => by cases h; exact ⟨a, by rw [e]; rfl, x⟩
  | _ :: _, _ :: _, i + 1, v, ⟨_, r⟩, h => r.get (i := i) h
theorem StrsIn.len : ∀ {vs : List Value} {xs : List Str}, StrsIn vs xs → vs.length = xs.length
  | [], [], _ => rfl
  | _ :: _, _ :: _, ⟨_, r⟩ => by simp [r.len]
theorem StrsIn.snoc {x : Str} {t : Tok} : ∀ {vs : List Value} {xs : List Str}, StrsIn vs xs → StrsIn (vs ++ [.str x t]) (xs ++ [x])
  | [], [], _ => ⟨⟨t, rfl⟩, trivial⟩
  | _ :: _, _ :: _, ⟨a, r⟩ => ⟨a, r.snoc⟩
theorem WordsIn.append {n : List (Addr × Obj)} {vs' : List Value} {ps' : List (List KV)} (h : WordsIn n vs' ps') : ∀ {vs : List Value} {ps : List (List KV)}, WordsIn n vs ps → WordsIn n (vs ++ vs') (ps ++ ps')
  | [], [], _ => h
  | _ :: _, _ :: _, ⟨x, q⟩ => ⟨x, WordsIn.append h q⟩
theorem RowAt.len {n : List (Addr × Obj)} {r : Addr} {row : List Nat} : RowAt n r row → ∃ ys e, (r, lstO ys e) ∈ n ∧ IntsAre ys (asInts row) ∧ ys.length = row.length
  | ⟨ys, e, h1, h2⟩ => ⟨ys, e, h1, h2, by have := IntsAre.length h2; simpa using this⟩
section
variable {prog : Program} {w : World} {A : Around} {E : Value → Shared → Prop} {s s₁ : Shared} {h₀ : Heap} {L : Addr} {m : Str → Option Value} {env : Env} {base : List (Addr × Obj)}
theorem RcSrc.inv {elt : Expr} {x : Str} {scope : Scope} {cl : List (Str × Addr)} {Q : Value → Shared → Prop} {r : Addr} {a b : Int} {t u v : Tok} (n : Nat) (K : Nat → List Value → List (Addr × Obj) → Prop) (hh : A.handled = none) (F : Fr h₀ L s₁.heap m) (N : News h₀ L s₁.heap base)
    (hr : IsRange s₁.heap r a b 1 t u v) (hsm : Builtin.Range.small a b 1 = true) (hn : Builtin.Range.rangeSize a b 1 = ((n : Nat) : Int)) (hsz : n ≤ sizeLine) (h0 : K 0 [] base)
    (turn : ∀ i ys news v I C c D oI oC oc h tk (E' : Value → Shared → Prop), i < n → K i ys news → (∀ q ∈ base, q ∈ news) → Nw base news → (∃ t, v = .int (a + (i : Int)) t) → oc.data = .cell (some v) → Fr h₀ L h m → News h₀ L h ((I, oI) :: (C, oC) :: (c, oc) :: (D, LCg.lst ys) :: news) → Off4 I C c D news → @Ne Nat I C → @Ne Nat I c → @Ne Nat I D → @Ne Nat C c → @Ne Nat C D → @Ne Nat c D →
        wpAny (model prog w) A (eval elt (compEnvC scope ((x, c) :: cl) C env)) (RcEnd h₀ L m { s₁ with heap := h, toks := tk } I C c D oI oC oc (LCg.lst ys) fun y news' => K (i + 1) (ys ++ [y]) news' ∧ (∀ q ∈ base, q ∈ news') ∧ Nw base news') E' { s₁ with heap := h, toks := tk })
    (fin : ∀ ys news D h tk, K n ys news → (∀ q ∈ base, q ∈ news) → Nw base news → Fr h₀ L h m → News h₀ L h ((D, LCg.lst ys) :: news) → (∀ p ∈ news, p.1 ≠ D) → Q (.ref D) { s₁ with heap := h, toks := tk }) :
    RcSrc prog w A h₀ L m env elt x scope cl Q (.ref r) s₁ :=
  ⟨r, a, b, t, u, v, n, base, fun i ys news => K i ys news ∧ (∀ q ∈ base, q ∈ news) ∧ Nw base news, rfl, hh, F, N, hr, hsm, hn, hsz, ⟨h0, fun _ h => h, Nw.refl _⟩,
    fun i ys news v I C c D oI oC oc h tk E' hi hJ => turn i ys news v I C c D oI oC oc h tk E' hi hJ.1 hJ.2.1 hJ.2.2,
    fun ys news D h tk hJ => fin ys news D h tk hJ.1 hJ.2.1 hJ.2.2⟩
theorem CompSrc.inv_list {elt : Expr} {x : Str} {scope : Scope} {cl : List (Str × Addr)} {Fin : Shared → List Value → List (Addr × Obj) → Prop} {ax : Addr} {vs : List Value} {e : Nat} (K : Nat → List Value → List (Addr × Obj) → Prop) (hh : A.handled = none) (F : Fr h₀ L s₁.heap m) (N : News h₀ L s₁.heap base)
    (hm : (ax, lstO vs e) ∈ base) (hsz : vs.length ≤ 2 ^ 20) (h0 : K 0 [] base)
    (turn : ∀ i ys news v I oI C oC D m₂ h tk (E' : Value → Shared → Prop), i < vs.length → K i ys news → (∀ q ∈ base, q ∈ news) → Nw base news → vs[i]? = some v → LCg.NsObj oC m₂ → m₂ x = some v → Fr h₀ L h m → News h₀ L h ((I, oI) :: (C, oC) :: (D, LCg.lst ys) :: news) → LCg.Off3 I C D news → @Ne Nat I C → @Ne Nat I D → @Ne Nat C D →
      wpAny (model prog w) A (eval elt (compEnvC scope cl C env)) (LCg.CompEnd h₀ L m { s₁ with heap := h, toks := tk } I oI C oC D (LCg.lst ys) (fun _ => True) (fun y news' => K (i + 1) (ys ++ [y]) news' ∧ (∀ q ∈ base, q ∈ news') ∧ Nw base news')) E' { s₁ with heap := h, toks := tk })
    (fin : ∀ g ys news, K vs.length ys news → (∀ q ∈ base, q ∈ news) → Nw base news → Fin { s₁ with heap := g } ys news) :
    LCg.CompSrc prog w A h₀ L m env elt x scope cl Fin (.ref ax) s₁ := by
  refine LCg.CompSrc.ledger (its := vs.toArray) hh F N hm (by rw [List.size_toArray, sizeLine_eq]; omega) fun g => ?_
  refine comp_inv (n := vs.toArray.size) (fun i ys news => K i ys news ∧ (∀ q ∈ base, q ∈ news) ∧ Nw base news) ?_ ?_ vs.toArray.size 0 [] base (Nat.zero_add _) ⟨h0, fun _ h => h, Nw.refl _⟩
  · intro i ys news v I oI C oC D m₂ h tk E' hi hJ hv hC hx F1 N1 off ne
    refine wpAny_mono (turn i ys news v I oI C oC D m₂ h tk E' (by simpa using hi) hJ.1 hJ.2.1 hJ.2.2 (by simpa using hv) hC hx F1 N1 off ne.1 ne.2.1 ne.2.2) (fun y s₂ h₂ => ?_) fun _ _ e => e
    obtain ⟨h', tk', news', e, F', N', off', _, hJ'⟩ := h₂
    exact ⟨h', tk', news', e, F', N', off', .inr ⟨_, hJ'.2.1 _ hm, rfl, _, rfl⟩, hJ'⟩
  · intro ys news hJ
    have e : vs.toArray.size = vs.length := by simp
    rw [e] at hJ
    exact fin g ys news hJ.1 hJ.2.1 hJ.2.2
theorem CompSrc.inv_range {elt : Expr} {x : Str} {scope : Scope} {cl : List (Str × Addr)} {Fin : Shared → List Value → List (Addr × Obj) → Prop} {r : Addr} {a b : Int} {t u v : Tok} (n : Nat) (K : Nat → List Value → List (Addr × Obj) → Prop) (hh : A.handled = none) (F : Fr h₀ L s₁.heap m) (N : News h₀ L s₁.heap base)
    (hr : IsRange s₁.heap r a b 1 t u v) (hsm : Builtin.Range.small a b 1 = true) (hn : Builtin.Range.rangeSize a b 1 = ((n : Nat) : Int)) (hsz : n ≤ sizeLine) (h0 : K 0 [] base)
    (turn : ∀ i ys news v I oI C oC D m₂ h tk (E' : Value → Shared → Prop), i < n → K i ys news → (∀ q ∈ base, q ∈ news) → Nw base news → (∃ t, v = .int (a + (i : Int)) t) → LCg.NsObj oC m₂ → m₂ x = some v → Fr h₀ L h m → News h₀ L h ((I, oI) :: (C, oC) :: (D, LCg.lst ys) :: news) → LCg.Off3 I C D news → @Ne Nat I C → @Ne Nat I D → @Ne Nat C D →
      wpAny (model prog w) A (eval elt (compEnvC scope cl C env)) (LCg.CompEnd h₀ L m { s₁ with heap := h, toks := tk } I oI C oC D (LCg.lst ys) (fun _ => True) (fun y news' => K (i + 1) (ys ++ [y]) news' ∧ (∀ q ∈ base, q ∈ news') ∧ Nw base news')) E' { s₁ with heap := h, toks := tk })
    (fin : ∀ g ys news, K n ys news → (∀ q ∈ base, q ∈ news) → Nw base news → Fin { s₁ with heap := g } ys news) :
    LCg.CompSrc prog w A h₀ L m env elt x scope cl Fin (.ref r) s₁ := by
  refine LCg.CompSrc.range hh F N hr hsm hn hsz fun g => ?_
  refine comp_inv (n := n) (fun i ys news => K i ys news ∧ (∀ q ∈ base, q ∈ news) ∧ Nw base news) ?_ ?_ n 0 [] base (Nat.zero_add _) ⟨h0, fun _ h => h, Nw.refl _⟩
  · intro i ys news v I oI C oC D m₂ h tk E' hi hJ hv hC hx F1 N1 off ne
    refine wpAny_mono (turn i ys news v I oI C oC D m₂ h tk E' hi hJ.1 hJ.2.1 hJ.2.2 hv hC hx F1 N1 off ne.1 ne.2.1 ne.2.2) (fun y s₂ h₂ => ?_) fun _ _ e => e
    obtain ⟨h', tk', news', e, F', N', off', _, hJ'⟩ := h₂
    exact ⟨h', tk', news', e, F', N', off', trivial, hJ'⟩
  · intro ys news hJ
    exact fin g ys news hJ.1 hJ.2.1 hJ.2.2
/-- a turn that made nothing -/
theorem CompEnd.same {s₁ : Shared} {I C D : Addr} {oI oC oD : Obj} {rest : Value → List (Addr × Obj) → Prop} {y : Value} {h' : Heap} {tk : Nat} {news : List (Addr × Obj)}
    (F : Fr h₀ L h' m) (N : News h₀ L h' ((I, oI) :: (C, oC) :: (D, oD) :: news)) (off : LCg.Off3 I C D news) (r : rest y news) :
    LCg.CompEnd h₀ L m s₁ I oI C oC D oD (fun _ => True) rest y { s₁ with heap := h', toks := tk } := ⟨h', tk, news, rfl, F, N, off, trivial, r⟩
/-- a turn that made things: they are laid aside by their addresses -/
def strip3 (I C D : Addr) (news : List (Addr × Obj)) : List (Addr × Obj) := news.filter fun q => decide (q.1 ≠ I ∧ q.1 ≠ C ∧ q.1 ≠ D)
theorem strip3_mem {I C D : Addr} {news : List (Addr × Obj)} {q : Addr × Obj} : q ∈ strip3 I C D news ↔ q ∈ news ∧ q.1 ≠ I ∧ q.1 ≠ C ∧ q.1 ≠ D := by simp [strip3, List.mem_filter]
theorem CompEnd.made {s₁ : Shared} {I C D : Addr} {oI oC oD : Obj} {rest : Value → List (Addr × Obj) → Prop} {y : Value} {h' : Heap} {tk : Nat} {all : List (Addr × Obj)}
    (F : Fr h₀ L h' m) (N : News h₀ L h' all) (hI : (I, oI) ∈ all) (hC : (C, oC) ∈ all) (hD : (D, oD) ∈ all) (r : rest y (strip3 I C D all)) :
    LCg.CompEnd h₀ L m s₁ I oI C oC D oD (fun _ => True) rest y { s₁ with heap := h', toks := tk } := by
  refine ⟨h', tk, strip3 I C D all, rfl, F, fun q hq => ?_, LCg.Off3.of fun p hp => (strip3_mem.mp hp).2, trivial, r⟩
  simp only [List.mem_cons] at hq
  rcases hq with rfl | rfl | rfl | hq
  · exact N _ hI
  · exact N _ hC
  · exact N _ hD
  · exact N _ (strip3_mem.mp hq).1
end
end

-- part Sc
section
theorem bit_int (i n : Nat) : ((0 + (i : Int)).fdiv ((2 : Int) ^ n)).fmod 2 = ((i / 2 ^ n % 2 : Nat) : Int) := by
  rw [Int.zero_add, Int.fdiv_eq_ediv_of_nonneg _ (Int.pow_nonneg (by decide)), Int.fmod_eq_emod_of_nonneg _ (by decide)]
  simp
theorem bits_list {ys : List Value} {z i : Nat} (hz : z < 4) (h : IntsAre ys (List.map (fun (k' : Int) => ((0 + (i : Int)).fdiv ((2 : Int) ^ ((z : Int) - 1 - k').toNat)).fmod 2) (rangeKs 0 ((z : Int) - 0).toNat))) : IntsAre ys (asInts (bitsOf z i)) := by
  have e : List.map (fun (k' : Int) => ((0 + (i : Int)).fdiv ((2 : Int) ^ ((z : Int) - 1 - k').toNat)).fmod 2) (rangeKs 0 ((z : Int) - 0).toNat) = asInts (bitsOf z i) := by
    simp only [bit_int]
    have : z = 0 ∨ z = 1 ∨ z = 2 ∨ z = 3 := by omega
    rcases this with rfl | rfl | rfl | rfl <;> rfl
  rw [← e]; exact h
end

-- part Kt
section
theorem pow_lo {z : Nat} {k : Int} (h : k < 0 + ((((z : Int) - 0).toNat : Nat) : Int)) : 0 ≤ (z : Int) - 1 - k := by omega
theorem pow_hi {z : Nat} {k : Int} (hz : z < 4) (h : 0 ≤ k) : (z : Int) - 1 - k ≤ 1000000 := by omega
theorem pow_hi0 {z : Nat} (hz : z < 4) : (z : Int) ≤ 1000000 := by omega
local macro_rules | `(tactic| walk_at "binaryOp Pow int int") => `(tactic| (k_here; (try k_fmods); (with_reducible refine pow_int_small ?kb1 ?kb2 ?kb3 ?_); (case kb1 => first | exact Int.natCast_nonneg _ | exact pow_lo (by assumption)); (case kb2 => first | exact pow_hi0 (by assumption) | exact pow_hi (by assumption) (by assumption)); (case kb3 => decide)))

theorem Nw.drop {a b : List (Addr × Obj)} {x : Addr × Obj} (h : Nw (x :: a) b) (hx : ∀ p ∈ a, p.1 ≠ x.1) : Nw a b := fun q hq => by
  rcases h q hq with h | h
  · rcases List.mem_cons.mp h with rfl | h
    · exact .inr hx
    · exact .inl h
  · exact .inr fun p hp => h p (.tail _ hp)
theorem rc_made {g h' : Heap} {L D' S I C c D : Addr} {m : Str → Option Value} {s₁ : Shared} {tk : Nat} {ys ys0 : List Value} {oS oI oC oc : Obj} {news news1 : List (Addr × Obj)} {z i : Nat}
    (F9 : Fr g L h' m) (N9 : News g L h' ((D', LCg.lst ys) :: (S, oS) :: (I, oI) :: (C, oC) :: (c, oc) :: (D, LCg.lst ys0) :: news1)) (o1 : S ≠ D' ∧ I ≠ D' ∧ C ≠ D' ∧ c ≠ D' ∧ D ≠ D' ∧ LCg.Off1 D' news1) (hI : IntsAre ys (asInts (bitsOf z i)))
    (hK : RowsIn news1 ys0 ((List.range i).map (bitsOf z))) (hsub : ∀ q ∈ (S, oS) :: news, q ∈ news1) (hnw : Nw ((S, oS) :: news) news1) (off : Off4 I C c D news1) :
    RcEnd g L m s₁ I C c D oI oC oc (LCg.lst ys0) (fun y news' => RowsIn news' (ys0 ++ [y]) ((List.range (i + 1)).map (bitsOf z)) ∧ (∀ q ∈ (S, oS) :: news, q ∈ news') ∧ Nw ((S, oS) :: news) news') (.ref D') { s₁ with heap := h', toks := tk } := by
  obtain ⟨p1, p2, p3, p4, p5, p6⟩ := o1
  refine ⟨h', tk, (D', LCg.lst ys) :: news1, rfl, F9, fun q hq => N9 q ?_, ?_, ?_, fun q hq => .tail _ (hsub q hq), hnw.add (.inr fun q hq => off1_ne p6 q (hsub q hq))⟩
  · simp only [List.mem_cons] at hq ⊢
    rcases hq with h | h | h | h | h | h
    · exact .inr (.inr (.inl h))
    · exact .inr (.inr (.inr (.inl h)))
    · exact .inr (.inr (.inr (.inr (.inl h))))
    · exact .inr (.inr (.inr (.inr (.inr (.inl h)))))
    · exact .inl h
    · exact .inr (.inr (.inr (.inr (.inr (.inr h)))))
  · intro q hq
    rcases List.mem_cons.mp hq with rfl | hq
    · exact ⟨Ne.symm p2, Ne.symm p3, Ne.symm p4, Ne.symm p5⟩
    · exact off q hq
  · rw [List.range_succ, List.map_append]
    exact RowsIn.snoc ⟨_, _, .head _, hI⟩ (hK.mono fun q hq => .tail _ hq)
theorem four_of {z : Nat} (hz : z < 4) : z = 0 ∨ z = 1 ∨ z = 2 ∨ z = 3 := by
  match z, hz with
  | 0, _ => exact .inl rfl
  | 1, _ => exact .inr (.inl rfl)
  | 2, _ => exact .inr (.inr (.inl rfl))
  | 3, _ => exact .inr (.inr (.inr rfl))
set_option maxHeartbeats 4000000 in
theorem rowsof_spec (w : World) (p : Program) (loose : List Str) (mean : ExcName → Option Value) (mg mb : Str → Option Value)
  (dp un : Nat) (gd : Option (List Code)) (cn : Str) (cs : Scope) (a : Addr) (ccd : Value) (cl : List (Str × Addr)) (outer : List Env) (A₀ : Around) (base h₀ : Heap) (L : Addr) (m : Str → Option Value) (news : List (Addr × Obj)) (s : Shared) 
    (z : Nat) (tx : Tok) (Q E : Value → Shared → Prop)
    (B : Below A₀ base outer h₀) (F : Fr h₀ L s.heap m) (X : (hd.heap_39 w.params).In h₀) (N : News h₀ L s.heap news) (T : Top p loose mean mg mb h₀) (hk : cs.kind = .function) 
    (hz : z < 4) (hdp : dp + 1 < recursionLimit) (hu : un + 16 < cLine)
    (hret : ∀ r ys h' tk' news', Fr h₀ L h' m → News h₀ L h' news' → (∀ q ∈ news, q ∈ news') → Nw news news' → (r, LCg.lst ys) ∈ news' → RowsIn news' ys (rowsOf z) → Q (.ref r) { s with heap := h', toks := tk' }) :
    wpAny (model prg w) (ktrTop dp un gd cn cs L a ccd cl outer) (call (.ref 146) [.int z tx]) Q E s := by
  w_top off
  have : (PySem.Challenge.rw_re0071_01, hd.heap_39) = (PySem.Challenge.rw_re0071_01, hd.heap_39) := by
    k_fill
    rfl
  clear this
  have hz4 := four_of hz
  refine wpAny_call ?_
  k_dflt ((refine' code_defC ?k1 ?k2 ?k3 ?k4 ?k5 ?kA ?kF ?kK ?k6 ?k7 ?k8 ?k9 ?kB ?kD ?_ ?c2 ?c3 ?c4; (case kA => exact rfl); (case kF => exact rfl); (case kK => assumption); (case k1 => k_asm); (case k2 => k_asm); (case k3 => k_asm); (case k4 => k_asm); (case k5 => k_asm); (case k6 => k_is); (case k7 => k_is); (case k8 => ktr_room); (case k9 => exact BindsTo.of_eq rfl); (case kB => exact rfl); (case kD => decide +kernel); (case c2 => exact rfl); (case c3 => exact rfl); (case c4 => exact rfl); k_whole; intro g' L' h' tk' cells' FG' F' N' Y' B' X' T' l1; (try k_lt l1); k_cells Y'; (try simp only [List.cons_append, List.nil_append] at N'); (try dsimp only); (try k_lift B'); (try k_fold)))
  (repeat' ((fail_if_success first | (with_reducible show wpAny _ _ (PySem.eval (PySem.Expr.ListComp _ _ _ _) _) _ _ _)); first | (k_unfold; (try dsimp only)) | walk1 | (dsimp only; walk1)))
  refine ListComp_RC (F₀ := by k_asm) (by with_unfolding_all rfl) (fun n => rfl) (fun h => rfl) rfl (by decide) (fun _ _ => rfl) (fun _ _ => rfl) ?_
  (repeat' ((fail_if_success first | (with_reducible show wpAny _ _ (PySem.eval (PySem.Expr.ListComp _ _ _ _) _) _ _ _)); first | (k_unfold; (try dsimp only)) | walk1 | (dsimp only; walk1)))
  rename (IsRange _ _ _ _ _ _ _ _) => hr
  rename (Fr _ _ _ _) => F1
  rename (News _ _ _ _) => N1
  refine RcSrc.inv (2 ^ z) (fun i ys news' => RowsIn news' ys ((List.range i).map (bitsOf z))) rfl F1 N1 hr ?_ ?_ ?_ trivial ?_ ?_
  · rcases hz4 with rfl | rfl | rfl | rfl <;> decide
  · rcases hz4 with rfl | rfl | rfl | rfl <;> decide
  · rcases hz4 with rfl | rfl | rfl | rfl <;> decide
  · intro i ys news1 v I C c D oI oC oc h tk E' hi hK hsub hnw hv hd F3 N3 off n1 n2 n3 n4 n5 n6
    obtain ⟨t, rfl⟩ := hv
    replace N3 := news_cons N3 (.tail _ (.tail _ (.tail _ (.tail _ (hsub _ (.head _))))))
    refine LCg.ListComp_U (F₀ := by k_asm) (by with_unfolding_all rfl) (by decide) (by rfl) (by decide) (by rfl) ?_
    (repeat' ((fail_if_success first | (with_reducible show wpAny _ _ (PySem.eval (PySem.Expr.ListComp _ _ _ _) _) _ _ _)); first | (k_unfold; (try dsimp only)) | walk1 | (dsimp only; walk1)))
    rename (IntsAre _ _) => hI
    exact rc_made (by assumption) (by assumption) (by assumption) (bits_list hz hI) hK hsub hnw off
  · intro ys news1 D h tk hK hsub hnw F4 N4 hne
    (repeat' ((fail_if_success first | (with_reducible show wpAny _ _ (PySem.eval (PySem.Expr.ListComp _ _ _ _) _) _ _ _)); first | (k_unfold; (try dsimp only)) | walk1 | (dsimp only; walk1)))
    rename (News h₀ L _ _) => N9
    rename (Fr h₀ L _ _) => F9
    rename (∀ p ∈ news, p.1 < _) => l1
    exact hret D ys _ _ ((D, LCg.lst ys) :: news1) F9 N9 (fun q hq => .tail _ (hsub q (.tail _ hq))) ((hnw.drop fun q hq => Nat.ne_of_lt (Nat.lt_succ_of_lt (l1 q hq))).add (.inr fun q hq => hne q (hsub q (.tail _ hq)))) (.head _) (hK.mono fun q hq => .tail _ hq)
end

-- part Kv
section
theorem words_step {n : List (Addr × Obj)} {ys : List Value} {v : Value} {X1 : List Nat} {f g i b : Nat} (hK : WordsIn n ys (((X1.take i).map (pk f g)).map wd)) (hb : X1[i]? = some b) (hv : WordIn n v (wd (pk f g b))) : WordsIn n (ys ++ [v]) (((X1.take (i + 1)).map (pk f g)).map wd) := by
  rw [take_snoc (pk f g) hb, List.map_append]
  exact WordsIn.snoc hv hK
set_option maxHeartbeats 4000000 in
theorem written_spec (w : World) (p : Program) (loose : List Str) (mean : ExcName → Option Value) (mg mb : Str → Option Value)
  (dp un : Nat) (gd : Option (List Code)) (cn : Str) (cs : Scope) (a : Addr) (ccd : Value) (cl : List (Str × Addr)) (outer : List Env) (A₀ : Around) (base h₀ : Heap) (L : Addr) (m : Str → Option Value) (news : List (Addr × Obj)) (s : Shared) 
    (pr r1 r2 : Addr) (f g : Nat) (X1 Y1 : List Nat) (ps : Array Value) (Gd : Addr → Prop) (Q E : Value → Shared → Prop)
    (B : Below A₀ base outer h₀) (F : Fr h₀ L s.heap m) (X : (hd.heap_39 w.params).In h₀) (N : News h₀ L s.heap ((82, tabObj ps) :: news)) (T : Top p loose mean mg mb h₀) (C : CodeHd base 86 82) (hk : cs.kind = .function) 
    (hP : PairAt news pr f g) (hX : RowAt news r1 X1) (hY : RowAt news r2 Y1) (hXl : X1.length ≤ 3) (hYl : Y1.length ≤ 3) (hXb : ∀ b ∈ X1, b < 2) (hYb : ∀ b ∈ Y1, b < 2)
    (hT : TabOk 57 50 jq Gd news ps) (hGd : ∀ c', (∀ p ∈ news, p.1 < c') → Gd c') (hne : ∀ q ∈ news, q.1 ≠ 82) (hdp : dp + 2 < recursionLimit) (hu : un + 32 < cLine)
    (hret : ∀ tk h' tk' ps' news', Fr h₀ L h' m → News h₀ L h' ((82, tabObj ps') :: news') → (∀ q ∈ news, q ∈ news') → TabOk 57 50 jq Gd news' ps' → (∀ q ∈ news', q.1 ≠ 82) → Nw news news' → Q (.str (rowText f g (X1 ++ Y1)) tk) { s with heap := h', toks := tk' }) :
    wpAny (model prg w) (ktrTop dp un gd cn cs L a ccd cl outer) (call (.ref 151) [.ref pr, .ref r1, .ref r2]) Q E s := by
  w_top off
  have : (PySem.Challenge.rw_re0071_01, hd.heap_39) = (PySem.Challenge.rw_re0071_01, hd.heap_39) := by
    k_fill
    rfl
  clear this
  refine Classical.byContradiction fun hgo9 => ?_
  obtain ⟨xs, e1, hx1, hx2, hx3⟩ := hX.len
  obtain ⟨ys, e2, hy1, hy2, hy3⟩ := hY.len
  refine hgo9 ?_
  clear hgo9
  refine wpAny_call ?_
  k_dflt ((refine' code_defC ?k1 ?k2 ?k3 ?k4 ?k5 ?kA ?kF ?kK ?k6 ?k7 ?k8 ?k9 ?kB ?kD ?_ ?c2 ?c3 ?c4; (case kA => exact rfl); (case kF => exact rfl); (case kK => assumption); (case k1 => k_asm); (case k2 => k_asm); (case k3 => k_asm); (case k4 => k_asm); (case k5 => k_asm); (case k6 => k_is); (case k7 => k_is); (case k8 => ktr_room); (case k9 => exact BindsTo.of_eq rfl); (case kB => exact rfl); (case kD => decide +kernel); (case c2 => exact rfl); (case c3 => exact rfl); (case c4 => exact rfl); k_whole; intro g' L' h' tk' cells' FG' F' N' Y' B' X' T' l1; (try k_lt l1); k_cells Y'; (try simp only [List.cons_append, List.nil_append] at N'); (try dsimp only); (try k_lift B'); (try k_fold)))
  (repeat' ((fail_if_success first | (with_reducible show wpAny _ _ (PySem.eval (PySem.Expr.ListComp _ _ _ _) _) _ _ _) | (with_reducible show wpAny _ _ (subscriptTail _ _ (Value.ref _) (Value.int _ _)) _ _ _) | (with_reducible show wpAny _ _ (call (Value.ref 101) _) _ _ _) | (with_reducible show wpAny _ _ (call (Value.ref 87) _) _ _ _) | (with_reducible show LCg.CompSrc _ _ _ _ _ _ _ _ _ _ _ _ _ _) | (with_reducible show LCg.CompEnd _ _ _ _ _ _ _ _ _ _ _ _ _ _) | (with_reducible show LCg.FinE _ _ _ _ _ _ _)); first | (k_unfold; (try dsimp only)) | walk1 | (dsimp only; walk1)))
  refine LCg.ListComp_U (F₀ := by k_asm) (by with_unfolding_all rfl) (by decide) (by rfl) (by decide) (by rfl) ?_
  (repeat' ((fail_if_success first | (with_reducible show wpAny _ _ (PySem.eval (PySem.Expr.ListComp _ _ _ _) _) _ _ _) | (with_reducible show wpAny _ _ (subscriptTail _ _ (Value.ref _) (Value.int _ _)) _ _ _) | (with_reducible show wpAny _ _ (call (Value.ref 101) _) _ _ _) | (with_reducible show wpAny _ _ (call (Value.ref 87) _) _ _ _) | (with_reducible show LCg.CompSrc _ _ _ _ _ _ _ _ _ _ _ _ _ _) | (with_reducible show LCg.CompEnd _ _ _ _ _ _ _ _ _ _ _ _ _ _) | (with_reducible show LCg.FinE _ _ _ _ _ _ _)); first | (k_unfold; (try dsimp only)) | walk1 | (dsimp only; walk1)))
  rename (News _ _ _ _) => N1
  refine CompSrc.inv_list (vs := xs) (e := e1) (fun i ys _ => WordsIn news ys (((X1.take i).map (pk f g)).map wd)) rfl (by k_asm) N1 (.tail _ (.tail _ hx1)) (by omega) trivial ?_ ?_
  · intro i ys' news1 v I oI C' oC D m₂ h tk E' hi hK hsub hnw hv hC' hx F3 N3 off n1 n2 n3
    refine Classical.byContradiction fun hgo9 => ?_
    obtain ⟨b, t, hb1, hb2, hb3⟩ := ints_at (k := i) hx2 (by omega)
    refine hgo9 ?_
    clear hgo9
    rw [hb3] at hv
    cases hv
    have hb := hXb b hb1
    replace N3 := news_cons N3 (.tail _ (.tail _ (.tail _ (hsub _ (.head _)))))
    refine Classical.byContradiction fun hgo9 => ?_
    obtain ⟨pa, pb, pe, W1, t1, ee1, W2, t2, ee2, q1, q2, q3, q4, q5⟩ := hP
    refine hgo9 ?_
    clear hgo9
    have n4 : ∀ q ∈ news, q ∈ (I, oI) :: (C', oC) :: (D, LCg.lst ys') :: news1 := fun q hq => .tail _ (.tail _ (.tail _ (hsub q (.tail _ (.tail _ hq)))))
    (repeat' ((fail_if_success first | (with_reducible show wpAny _ _ (PySem.eval (PySem.Expr.ListComp _ _ _ _) _) _ _ _) | (with_reducible show wpAny _ _ (subscriptTail _ _ (Value.ref _) (Value.int _ _)) _ _ _) | (with_reducible show wpAny _ _ (call (Value.ref 101) _) _ _ _) | (with_reducible show wpAny _ _ (call (Value.ref 87) _) _ _ _) | (with_reducible show LCg.CompSrc _ _ _ _ _ _ _ _ _ _ _ _ _ _) | (with_reducible show LCg.CompEnd _ _ _ _ _ _ _ _ _ _ _ _ _ _) | (with_reducible show LCg.FinE _ _ _ _ _ _ _)); first | (k_unfold; (try dsimp only)) | walk1 | (dsimp only; walk1)))
    have hb01 : b = 0 ∨ b = 1 := by omega
    rcases hb01 with rfl | rfl
    · refine item_K (.ref pa) (by k_asm) (.tail _ (n4 _ q1)) (by decide) (by decide) rfl ?_
      (repeat' ((fail_if_success first | (with_reducible show wpAny _ _ (PySem.eval (PySem.Expr.ListComp _ _ _ _) _) _ _ _) | (with_reducible show wpAny _ _ (subscriptTail _ _ (Value.ref _) (Value.int _ _)) _ _ _) | (with_reducible show wpAny _ _ (call (Value.ref 101) _) _ _ _) | (with_reducible show wpAny _ _ (call (Value.ref 87) _) _ _ _) | (with_reducible show LCg.CompSrc _ _ _ _ _ _ _ _ _ _ _ _ _ _) | (with_reducible show LCg.CompEnd _ _ _ _ _ _ _ _ _ _ _ _ _ _) | (with_reducible show LCg.FinE _ _ _ _ _ _ _)); first | (k_unfold; (try dsimp only)) | walk1 | (dsimp only; walk1)))
      refine item_K W1 (by k_asm) (.tail _ (n4 _ q2)) (by decide) (by decide) rfl ?_
      (repeat' ((fail_if_success first | (with_reducible show wpAny _ _ (PySem.eval (PySem.Expr.ListComp _ _ _ _) _) _ _ _) | (with_reducible show wpAny _ _ (subscriptTail _ _ (Value.ref _) (Value.int _ _)) _ _ _) | (with_reducible show wpAny _ _ (call (Value.ref 101) _) _ _ _) | (with_reducible show wpAny _ _ (call (Value.ref 87) _) _ _ _) | (with_reducible show LCg.CompSrc _ _ _ _ _ _ _ _ _ _ _ _ _ _) | (with_reducible show LCg.CompEnd _ _ _ _ _ _ _ _ _ _ _ _ _ _) | (with_reducible show LCg.FinE _ _ _ _ _ _ _)); first | (k_unfold; (try dsimp only)) | walk1 | (dsimp only; walk1)))
      exact CompEnd.same (by k_asm) (fun q hq => N3 q (.tail _ hq)) off ⟨words_step hK hb2 q4, hsub, hnw⟩
    · refine item_K (.ref pb) (by k_asm) (.tail _ (n4 _ q1)) (by decide) (by decide) rfl ?_
      (repeat' ((fail_if_success first | (with_reducible show wpAny _ _ (PySem.eval (PySem.Expr.ListComp _ _ _ _) _) _ _ _) | (with_reducible show wpAny _ _ (subscriptTail _ _ (Value.ref _) (Value.int _ _)) _ _ _) | (with_reducible show wpAny _ _ (call (Value.ref 101) _) _ _ _) | (with_reducible show wpAny _ _ (call (Value.ref 87) _) _ _ _) | (with_reducible show LCg.CompSrc _ _ _ _ _ _ _ _ _ _ _ _ _ _) | (with_reducible show LCg.CompEnd _ _ _ _ _ _ _ _ _ _ _ _ _ _) | (with_reducible show LCg.FinE _ _ _ _ _ _ _)); first | (k_unfold; (try dsimp only)) | walk1 | (dsimp only; walk1)))
      refine item_K W2 (by k_asm) (.tail _ (n4 _ q3)) (by decide) (by decide) rfl ?_
      (repeat' ((fail_if_success first | (with_reducible show wpAny _ _ (PySem.eval (PySem.Expr.ListComp _ _ _ _) _) _ _ _) | (with_reducible show wpAny _ _ (subscriptTail _ _ (Value.ref _) (Value.int _ _)) _ _ _) | (with_reducible show wpAny _ _ (call (Value.ref 101) _) _ _ _) | (with_reducible show wpAny _ _ (call (Value.ref 87) _) _ _ _) | (with_reducible show LCg.CompSrc _ _ _ _ _ _ _ _ _ _ _ _ _ _) | (with_reducible show LCg.CompEnd _ _ _ _ _ _ _ _ _ _ _ _ _ _) | (with_reducible show LCg.FinE _ _ _ _ _ _ _)); first | (k_unfold; (try dsimp only)) | walk1 | (dsimp only; walk1)))
      exact CompEnd.same (by k_asm) (fun q hq => N3 q (.tail _ hq)) off ⟨words_step hK hb2 q5, hsub, hnw⟩
  · intro g1 ys1 news1 hK1 hsub1 hnw1
    intro D1 h1 tk1 F1 N1 o1
    rw [hx3, List.take_length] at hK1
    replace N1 := news_cons N1 (.tail _ (hsub1 _ (.head _)))
    (repeat' ((fail_if_success first | (with_reducible show wpAny _ _ (PySem.eval (PySem.Expr.ListComp _ _ _ _) _) _ _ _) | (with_reducible show wpAny _ _ (subscriptTail _ _ (Value.ref _) (Value.int _ _)) _ _ _) | (with_reducible show wpAny _ _ (call (Value.ref 101) _) _ _ _) | (with_reducible show wpAny _ _ (call (Value.ref 87) _) _ _ _) | (with_reducible show LCg.CompSrc _ _ _ _ _ _ _ _ _ _ _ _ _ _) | (with_reducible show LCg.CompEnd _ _ _ _ _ _ _ _ _ _ _ _ _ _) | (with_reducible show LCg.FinE _ _ _ _ _ _ _)); first | (k_unfold; (try dsimp only)) | walk1 | (dsimp only; walk1)))
    refine LCg.ListComp_U (F₀ := by k_asm) (by with_unfolding_all rfl) (by decide) (by rfl) (by decide) (by rfl) ?_
    (repeat' ((fail_if_success first | (with_reducible show wpAny _ _ (PySem.eval (PySem.Expr.ListComp _ _ _ _) _) _ _ _) | (with_reducible show wpAny _ _ (subscriptTail _ _ (Value.ref _) (Value.int _ _)) _ _ _) | (with_reducible show wpAny _ _ (call (Value.ref 101) _) _ _ _) | (with_reducible show wpAny _ _ (call (Value.ref 87) _) _ _ _) | (with_reducible show LCg.CompSrc _ _ _ _ _ _ _ _ _ _ _ _ _ _) | (with_reducible show LCg.CompEnd _ _ _ _ _ _ _ _ _ _ _ _ _ _) | (with_reducible show LCg.FinE _ _ _ _ _ _ _)); first | (k_unfold; (try dsimp only)) | walk1 | (dsimp only; walk1)))
    refine CompSrc.inv_list (vs := ys) (e := e2) (fun i ys _ => WordsIn news ys (((Y1.take i).map (pk f g)).map wd)) rfl (by k_asm) N1 (.tail _ (.tail _ (hsub1 _ (.tail _ (.tail _ hy1))))) (by omega) trivial ?_ ?_
    · intro i ys' news2 v I oI C' oC D m₂ h tk E' hi hK hsub hnw hv hC' hx F3 N3 off n1 n2 n3
      refine Classical.byContradiction fun hgo9 => ?_
      obtain ⟨b, t, hb1, hb2, hb3⟩ := ints_at (k := i) hy2 (by omega)
      refine hgo9 ?_
      clear hgo9
      rw [hb3] at hv
      cases hv
      have hb := hYb b hb1
      replace N3 := news_cons N3 (.tail _ (.tail _ (.tail _ (hsub _ (.head _)))))
      refine Classical.byContradiction fun hgo9 => ?_
      obtain ⟨pa, pb, pe, W1, t1, ee1, W2, t2, ee2, q1, q2, q3, q4, q5⟩ := hP
      refine hgo9 ?_
      clear hgo9
      have n4 : ∀ q ∈ news, q ∈ (I, oI) :: (C', oC) :: (D, LCg.lst ys') :: news2 := fun q hq => .tail _ (.tail _ (.tail _ (hsub q (.tail _ (.tail _ (hsub1 _ (.tail _ (.tail _ hq))))))))
      (repeat' ((fail_if_success first | (with_reducible show wpAny _ _ (PySem.eval (PySem.Expr.ListComp _ _ _ _) _) _ _ _) | (with_reducible show wpAny _ _ (subscriptTail _ _ (Value.ref _) (Value.int _ _)) _ _ _) | (with_reducible show wpAny _ _ (call (Value.ref 101) _) _ _ _) | (with_reducible show wpAny _ _ (call (Value.ref 87) _) _ _ _) | (with_reducible show LCg.CompSrc _ _ _ _ _ _ _ _ _ _ _ _ _ _) | (with_reducible show LCg.CompEnd _ _ _ _ _ _ _ _ _ _ _ _ _ _) | (with_reducible show LCg.FinE _ _ _ _ _ _ _)); first | (k_unfold; (try dsimp only)) | walk1 | (dsimp only; walk1)))
      have hb01 : b = 0 ∨ b = 1 := by omega
      rcases hb01 with rfl | rfl
      · refine item_K (.ref pa) (by k_asm) (.tail _ (n4 _ q1)) (by decide) (by decide) rfl ?_
        (repeat' ((fail_if_success first | (with_reducible show wpAny _ _ (PySem.eval (PySem.Expr.ListComp _ _ _ _) _) _ _ _) | (with_reducible show wpAny _ _ (subscriptTail _ _ (Value.ref _) (Value.int _ _)) _ _ _) | (with_reducible show wpAny _ _ (call (Value.ref 101) _) _ _ _) | (with_reducible show wpAny _ _ (call (Value.ref 87) _) _ _ _) | (with_reducible show LCg.CompSrc _ _ _ _ _ _ _ _ _ _ _ _ _ _) | (with_reducible show LCg.CompEnd _ _ _ _ _ _ _ _ _ _ _ _ _ _) | (with_reducible show LCg.FinE _ _ _ _ _ _ _)); first | (k_unfold; (try dsimp only)) | walk1 | (dsimp only; walk1)))
        refine item_K W1 (by k_asm) (.tail _ (n4 _ q2)) (by decide) (by decide) rfl ?_
        (repeat' ((fail_if_success first | (with_reducible show wpAny _ _ (PySem.eval (PySem.Expr.ListComp _ _ _ _) _) _ _ _) | (with_reducible show wpAny _ _ (subscriptTail _ _ (Value.ref _) (Value.int _ _)) _ _ _) | (with_reducible show wpAny _ _ (call (Value.ref 101) _) _ _ _) | (with_reducible show wpAny _ _ (call (Value.ref 87) _) _ _ _) | (with_reducible show LCg.CompSrc _ _ _ _ _ _ _ _ _ _ _ _ _ _) | (with_reducible show LCg.CompEnd _ _ _ _ _ _ _ _ _ _ _ _ _ _) | (with_reducible show LCg.FinE _ _ _ _ _ _ _)); first | (k_unfold; (try dsimp only)) | walk1 | (dsimp only; walk1)))
        exact CompEnd.same (by k_asm) (fun q hq => N3 q (.tail _ hq)) off ⟨words_step hK hb2 q4, hsub, hnw⟩
      · refine item_K (.ref pb) (by k_asm) (.tail _ (n4 _ q1)) (by decide) (by decide) rfl ?_
        (repeat' ((fail_if_success first | (with_reducible show wpAny _ _ (PySem.eval (PySem.Expr.ListComp _ _ _ _) _) _ _ _) | (with_reducible show wpAny _ _ (subscriptTail _ _ (Value.ref _) (Value.int _ _)) _ _ _) | (with_reducible show wpAny _ _ (call (Value.ref 101) _) _ _ _) | (with_reducible show wpAny _ _ (call (Value.ref 87) _) _ _ _) | (with_reducible show LCg.CompSrc _ _ _ _ _ _ _ _ _ _ _ _ _ _) | (with_reducible show LCg.CompEnd _ _ _ _ _ _ _ _ _ _ _ _ _ _) | (with_reducible show LCg.FinE _ _ _ _ _ _ _)); first | (k_unfold; (try dsimp only)) | walk1 | (dsimp only; walk1)))
        refine item_K W2 (by k_asm) (.tail _ (n4 _ q3)) (by decide) (by decide) rfl ?_
        (repeat' ((fail_if_success first | (with_reducible show wpAny _ _ (PySem.eval (PySem.Expr.ListComp _ _ _ _) _) _ _ _) | (with_reducible show wpAny _ _ (subscriptTail _ _ (Value.ref _) (Value.int _ _)) _ _ _) | (with_reducible show wpAny _ _ (call (Value.ref 101) _) _ _ _) | (with_reducible show wpAny _ _ (call (Value.ref 87) _) _ _ _) | (with_reducible show LCg.CompSrc _ _ _ _ _ _ _ _ _ _ _ _ _ _) | (with_reducible show LCg.CompEnd _ _ _ _ _ _ _ _ _ _ _ _ _ _) | (with_reducible show LCg.FinE _ _ _ _ _ _ _)); first | (k_unfold; (try dsimp only)) | walk1 | (dsimp only; walk1)))
        exact CompEnd.same (by k_asm) (fun q hq => N3 q (.tail _ hq)) off ⟨words_step hK hb2 q5, hsub, hnw⟩
    · intro g2 ys2 news2 hK2 hsub2 hnw2
      intro D2 h2 tk2 F2 N2 o2
      rw [hy3, List.take_length] at hK2
      (repeat' ((fail_if_success first | (with_reducible show wpAny _ _ (PySem.eval (PySem.Expr.ListComp _ _ _ _) _) _ _ _) | (with_reducible show wpAny _ _ (subscriptTail _ _ (Value.ref _) (Value.int _ _)) _ _ _) | (with_reducible show wpAny _ _ (call (Value.ref 101) _) _ _ _) | (with_reducible show wpAny _ _ (call (Value.ref 87) _) _ _ _) | (with_reducible show LCg.CompSrc _ _ _ _ _ _ _ _ _ _ _ _ _ _) | (with_reducible show LCg.CompEnd _ _ _ _ _ _ _ _ _ _ _ _ _ _) | (with_reducible show LCg.FinE _ _ _ _ _ _ _)); first | (k_unfold; (try dsimp only)) | walk1 | (dsimp only; walk1)))
      refine' concat_spec _ _ _ _ _ _ _ _ _ _ _ _ _ _ _ _ _ _ _ _ _ _ _ _ ys1 ys2 ys1.length ys2.length _ _ ?B ?F ?X ?N ?T ?hk ?h1 ?h2 ?l1 ?l2 ?hd ?hu ?hr
      case B => k_asm
      case F => k_asm
      case X => k_asm
      case T => k_asm
      case N => exact N2
      case hk => exact rfl
      case h1 => exact .tail _ (hsub2 _ (.tail _ (.head _)))
      case h2 => exact .head _
      case l1 => rw [hK1.len]; simp; omega
      case l2 => rw [hK2.len]; simp; omega
      case hd => ktr_room
      case hu => ktr_units
      intro D3 h3 tk3 F3 N3 l3
      (repeat' ((fail_if_success first | (with_reducible show wpAny _ _ (PySem.eval (PySem.Expr.ListComp _ _ _ _) _) _ _ _) | (with_reducible show wpAny _ _ (subscriptTail _ _ (Value.ref _) (Value.int _ _)) _ _ _) | (with_reducible show wpAny _ _ (call (Value.ref 101) _) _ _ _) | (with_reducible show wpAny _ _ (call (Value.ref 87) _) _ _ _) | (with_reducible show LCg.CompSrc _ _ _ _ _ _ _ _ _ _ _ _ _ _) | (with_reducible show LCg.CompEnd _ _ _ _ _ _ _ _ _ _ _ _ _ _) | (with_reducible show LCg.FinE _ _ _ _ _ _ _)); first | (k_unfold; (try dsimp only)) | walk1 | (dsimp only; walk1)))
      have s2 : ∀ q ∈ (82, tabObj ps) :: news, q ∈ news2 := fun q hq => hsub2 q (.tail _ (.tail _ (hsub1 q (.tail _ hq))))
      have dlt : ∀ q ∈ (82, tabObj ps) :: news, q.1 < D3 := fun q hq => l3 q (.tail _ (s2 q hq))
      refine' join_spec _ _ _ _ _ _ _ _ _ _ _ _ _ _ _ _ _ _ _ _ ((D3, lstO (ys1 ++ ys2) 0) :: news) _ D3 (ys1 ++ ys2) 0 ((X1 ++ Y1).map (pk f g)) ps Gd _ _ ?B4 ?F4 ?X4 ?N4 ?T4 C ?hk4 (.head _) ?hW (hT.mono fun q hq => .tail _ hq) ?hGd ?hne ?hl ?hd4 ?hu4 ?hr4
      case B4 => k_asm
      case F4 => k_asm
      case X4 => k_asm
      case T4 => k_asm
      case hk4 => exact rfl
      case N4 =>
        intro q hq
        simp only [List.mem_cons] at hq
        rcases hq with rfl | rfl | hq
        · exact N3 _ (.tail _ (.tail _ (s2 _ (.head _))))
        · exact N3 _ (.head _)
        · exact N3 _ (.tail _ (.tail _ (s2 _ (.tail _ hq))))
      case hW => rw [List.map_append, List.map_append]; exact (WordsIn.append hK2 hK1).mono fun q hq => .tail _ hq
      case hGd => exact fun c' hc => hGd c' fun q hq => hc q (.tail _ hq)
      case hne =>
        intro q hq
        rcases List.mem_cons.mp hq with rfl | hq
        · exact Nat.ne_of_gt (dlt _ (.head _))
        · exact hne q hq
      case hl => simp; omega
      case hd4 => ktr_room
      case hu4 => ktr_units
      intro tk4 h4 tk4' ps4 news4 F4 N4 sub4 hT4 hne4 hnw4
      (repeat' ((fail_if_success first | (with_reducible show wpAny _ _ (PySem.eval (PySem.Expr.ListComp _ _ _ _) _) _ _ _) | (with_reducible show wpAny _ _ (subscriptTail _ _ (Value.ref _) (Value.int _ _)) _ _ _) | (with_reducible show wpAny _ _ (call (Value.ref 101) _) _ _ _) | (with_reducible show wpAny _ _ (call (Value.ref 87) _) _ _ _) | (with_reducible show LCg.CompSrc _ _ _ _ _ _ _ _ _ _ _ _ _ _) | (with_reducible show LCg.CompEnd _ _ _ _ _ _ _ _ _ _ _ _ _ _) | (with_reducible show LCg.FinE _ _ _ _ _ _ _)); first | (k_unfold; (try dsimp only)) | walk1 | (dsimp only; walk1)))
      rename (News h₀ L _ _) => N9
      rename (Fr h₀ L _ _) => F9
      exact hret _ _ _ ps4 news4 F9 N9 (fun q hq => sub4 q (.tail _ hq)) hT4 hne4 (hnw4.drop fun q hq => Nat.ne_of_lt (dlt q (.tail _ hq)))
end

-- part Kd
section
theorem texts_step {ys : List (Str × Tok)} {X1 : List Nat} {f g i b : Nat} {t : Tok} (hK : ys.map (·.1) = ((X1.take i).map (pk f g)).map txt) (hb : X1[i]? = some b) : (ys ++ [(txt (pk f g b), t)]).map (·.1) = ((X1.take (i + 1)).map (pk f g)).map txt := by
  rw [take_snoc (pk f g) hb, List.map_append, List.map_append, hK]; rfl
theorem strValues_snoc (ys : List (Str × Tok)) (x : Str) (t : Tok) : strValues ys ++ [.str x t] = strValues (ys ++ [(x, t)]) := by simp [strValues]
set_option maxHeartbeats 4000000 in
theorem due_spec (w : World) (p : Program) (loose : List Str) (mean : ExcName → Option Value) (mg mb : Str → Option Value)
  (dp un : Nat) (gd : Option (List Code)) (cn : Str) (cs : Scope) (a : Addr) (ccd : Value) (cl : List (Str × Addr)) (outer : List Env) (A₀ : Around) (base h₀ : Heap) (L : Addr) (m : Str → Option Value) (news : List (Addr × Obj)) (s : Shared) 
    (pr r1 : Addr) (f g : Nat) (X1 : List Nat) (Q E : Value → Shared → Prop)
    (B : Below A₀ base outer h₀) (F : Fr h₀ L s.heap m) (X : (hd.heap_39 w.params).In h₀) (N : News h₀ L s.heap news) (T : Top p loose mean mg mb h₀) (hk : cs.kind = .function) 
    (hP : PairAt news pr f g) (hX : RowAt news r1 X1) (hXl : X1.length ≤ 6) (hXb : ∀ b ∈ X1, b < 2) (hdp : dp + 2 < recursionLimit) (hu : un + 32 < cLine)
    (hret : ∀ tk h' tk', Fr h₀ L h' m → News h₀ L h' news → Q (.str (rowText f g X1) tk) { s with heap := h', toks := tk' }) :
    wpAny (model prg w) (ktrTop dp un gd cn cs L a ccd cl outer) (call (.ref 156) [.ref pr, .ref r1]) Q E s := by
  w_top off
  have : (PySem.Challenge.rw_re0071_01, hd.heap_39) = (PySem.Challenge.rw_re0071_01, hd.heap_39) := by
    k_fill
    rfl
  clear this
  refine Classical.byContradiction fun hgo9 => ?_
  obtain ⟨xs, e1, hx1, hx2, hx3⟩ := hX.len
  refine hgo9 ?_
  clear hgo9
  refine wpAny_call ?_
  k_dflt ((refine' code_defC ?k1 ?k2 ?k3 ?k4 ?k5 ?kA ?kF ?kK ?k6 ?k7 ?k8 ?k9 ?kB ?kD ?_ ?c2 ?c3 ?c4; (case kA => exact rfl); (case kF => exact rfl); (case kK => assumption); (case k1 => k_asm); (case k2 => k_asm); (case k3 => k_asm); (case k4 => k_asm); (case k5 => k_asm); (case k6 => k_is); (case k7 => k_is); (case k8 => ktr_room); (case k9 => exact BindsTo.of_eq rfl); (case kB => exact rfl); (case kD => decide +kernel); (case c2 => exact rfl); (case c3 => exact rfl); (case c4 => exact rfl); k_whole; intro g' L' h' tk' cells' FG' F' N' Y' B' X' T' l1; (try k_lt l1); k_cells Y'; (try simp only [List.cons_append, List.nil_append] at N'); (try dsimp only); (try k_lift B'); (try k_fold)))
  (repeat' ((fail_if_success first | (with_reducible show wpAny _ _ (PySem.eval (PySem.Expr.ListComp _ _ _ _) _) _ _ _) | (with_reducible show wpAny _ _ (subscriptTail _ _ (Value.ref _) (Value.int _ _)) _ _ _) | (with_reducible show wpAny _ _ (call (Value.builtin "str.join") _) _ _ _) | (with_reducible show LCg.CompSrc _ _ _ _ _ _ _ _ _ _ _ _ _ _) | (with_reducible show LCg.CompEnd _ _ _ _ _ _ _ _ _ _ _ _ _ _) | (with_reducible show LCg.FinE _ _ _ _ _ _ _)); first | (k_unfold; (try dsimp only)) | walk1 | (dsimp only; walk1)))
  refine LCg.ListComp_U (F₀ := by k_asm) (by with_unfolding_all rfl) (by decide) (by rfl) (by decide) (by rfl) ?_
  (repeat' ((fail_if_success first | (with_reducible show wpAny _ _ (PySem.eval (PySem.Expr.ListComp _ _ _ _) _) _ _ _) | (with_reducible show wpAny _ _ (subscriptTail _ _ (Value.ref _) (Value.int _ _)) _ _ _) | (with_reducible show wpAny _ _ (call (Value.builtin "str.join") _) _ _ _) | (with_reducible show LCg.CompSrc _ _ _ _ _ _ _ _ _ _ _ _ _ _) | (with_reducible show LCg.CompEnd _ _ _ _ _ _ _ _ _ _ _ _ _ _) | (with_reducible show LCg.FinE _ _ _ _ _ _ _)); first | (k_unfold; (try dsimp only)) | walk1 | (dsimp only; walk1)))
  rename (News _ _ _ _) => N1
  refine CompSrc.inv_list (vs := xs) (e := e1) (fun i ys _ => ∃ l : List (Str × Tok), ys = strValues l ∧ l.map (·.1) = ((X1.take i).map (pk f g)).map txt) rfl (by k_asm) N1 (.tail _ hx1) (by omega) ⟨[], rfl, rfl⟩ ?_ ?_
  · intro i ys' news1 v I oI C' oC D m₂ h tk E' hi hK hsub hnw hv hC' hx F3 N3 off n1 n2 n3
    refine Classical.byContradiction fun hgo9 => ?_
    obtain ⟨b, t, hb1, hb2, hb3⟩ := ints_at (k := i) hx2 (by omega)
    refine hgo9 ?_
    clear hgo9
    rw [hb3] at hv
    cases hv
    have hb := hXb b hb1
    replace N3 := news_cons N3 (.tail _ (.tail _ (.tail _ (hsub _ (.head _)))))
    refine Classical.byContradiction fun hgo9 => ?_
    obtain ⟨pa, pb, pe, W1, t1, ee1, W2, t2, ee2, q1, q2, q3, q4, q5⟩ := hP
    refine hgo9 ?_
    clear hgo9
    have n4 : ∀ q ∈ news, q ∈ (I, oI) :: (C', oC) :: (D, LCg.lst ys') :: news1 := fun q hq => .tail _ (.tail _ (.tail _ (hsub q (.tail _ hq))))
    obtain ⟨l, rfl, hl⟩ := hK
    (repeat' ((fail_if_success first | (with_reducible show wpAny _ _ (PySem.eval (PySem.Expr.ListComp _ _ _ _) _) _ _ _) | (with_reducible show wpAny _ _ (subscriptTail _ _ (Value.ref _) (Value.int _ _)) _ _ _) | (with_reducible show wpAny _ _ (call (Value.builtin "str.join") _) _ _ _) | (with_reducible show LCg.CompSrc _ _ _ _ _ _ _ _ _ _ _ _ _ _) | (with_reducible show LCg.CompEnd _ _ _ _ _ _ _ _ _ _ _ _ _ _) | (with_reducible show LCg.FinE _ _ _ _ _ _ _)); first | (k_unfold; (try dsimp only)) | walk1 | (dsimp only; walk1)))
    have hb01 : b = 0 ∨ b = 1 := by omega
    rcases hb01 with rfl | rfl
    · refine item_K (.ref pa) (by k_asm) (.tail _ (n4 _ q1)) (by decide) (by decide) rfl ?_
      (repeat' ((fail_if_success first | (with_reducible show wpAny _ _ (PySem.eval (PySem.Expr.ListComp _ _ _ _) _) _ _ _) | (with_reducible show wpAny _ _ (subscriptTail _ _ (Value.ref _) (Value.int _ _)) _ _ _) | (with_reducible show wpAny _ _ (call (Value.builtin "str.join") _) _ _ _) | (with_reducible show LCg.CompSrc _ _ _ _ _ _ _ _ _ _ _ _ _ _) | (with_reducible show LCg.CompEnd _ _ _ _ _ _ _ _ _ _ _ _ _ _) | (with_reducible show LCg.FinE _ _ _ _ _ _ _)); first | (k_unfold; (try dsimp only)) | walk1 | (dsimp only; walk1)))
      refine item_K (.str (txt f) t1) (by k_asm) (.tail _ (n4 _ q2)) (by decide) (by decide) rfl ?_
      (repeat' ((fail_if_success first | (with_reducible show wpAny _ _ (PySem.eval (PySem.Expr.ListComp _ _ _ _) _) _ _ _) | (with_reducible show wpAny _ _ (subscriptTail _ _ (Value.ref _) (Value.int _ _)) _ _ _) | (with_reducible show wpAny _ _ (call (Value.builtin "str.join") _) _ _ _) | (with_reducible show LCg.CompSrc _ _ _ _ _ _ _ _ _ _ _ _ _ _) | (with_reducible show LCg.CompEnd _ _ _ _ _ _ _ _ _ _ _ _ _ _) | (with_reducible show LCg.FinE _ _ _ _ _ _ _)); first | (k_unfold; (try dsimp only)) | walk1 | (dsimp only; walk1)))
      exact CompEnd.same (by k_asm) (fun q hq => N3 q (.tail _ hq)) off ⟨⟨_, strValues_snoc _ _ _, texts_step hl hb2⟩, hsub, hnw⟩
    · refine item_K (.ref pb) (by k_asm) (.tail _ (n4 _ q1)) (by decide) (by decide) rfl ?_
      (repeat' ((fail_if_success first | (with_reducible show wpAny _ _ (PySem.eval (PySem.Expr.ListComp _ _ _ _) _) _ _ _) | (with_reducible show wpAny _ _ (subscriptTail _ _ (Value.ref _) (Value.int _ _)) _ _ _) | (with_reducible show wpAny _ _ (call (Value.builtin "str.join") _) _ _ _) | (with_reducible show LCg.CompSrc _ _ _ _ _ _ _ _ _ _ _ _ _ _) | (with_reducible show LCg.CompEnd _ _ _ _ _ _ _ _ _ _ _ _ _ _) | (with_reducible show LCg.FinE _ _ _ _ _ _ _)); first | (k_unfold; (try dsimp only)) | walk1 | (dsimp only; walk1)))
      refine item_K (.str (txt g) t2) (by k_asm) (.tail _ (n4 _ q3)) (by decide) (by decide) rfl ?_
      (repeat' ((fail_if_success first | (with_reducible show wpAny _ _ (PySem.eval (PySem.Expr.ListComp _ _ _ _) _) _ _ _) | (with_reducible show wpAny _ _ (subscriptTail _ _ (Value.ref _) (Value.int _ _)) _ _ _) | (with_reducible show wpAny _ _ (call (Value.builtin "str.join") _) _ _ _) | (with_reducible show LCg.CompSrc _ _ _ _ _ _ _ _ _ _ _ _ _ _) | (with_reducible show LCg.CompEnd _ _ _ _ _ _ _ _ _ _ _ _ _ _) | (with_reducible show LCg.FinE _ _ _ _ _ _ _)); first | (k_unfold; (try dsimp only)) | walk1 | (dsimp only; walk1)))
      exact CompEnd.same (by k_asm) (fun q hq => N3 q (.tail _ hq)) off ⟨⟨_, strValues_snoc _ _ _, texts_step hl hb2⟩, hsub, hnw⟩
  · intro g1 ys1 news1 hK1 hsub1 hnw1
    intro D1 h1 tk1 F1 N1 o1
    obtain ⟨l, rfl, hl⟩ := hK1
    rw [hx3, List.take_length] at hl
    (repeat' ((fail_if_success first | (with_reducible show wpAny _ _ (PySem.eval (PySem.Expr.ListComp _ _ _ _) _) _ _ _) | (with_reducible show wpAny _ _ (subscriptTail _ _ (Value.ref _) (Value.int _ _)) _ _ _) | (with_reducible show wpAny _ _ (call (Value.builtin "str.join") _) _ _ _) | (with_reducible show LCg.CompSrc _ _ _ _ _ _ _ _ _ _ _ _ _ _) | (with_reducible show LCg.CompEnd _ _ _ _ _ _ _ _ _ _ _ _ _ _) | (with_reducible show LCg.FinE _ _ _ _ _ _ _)); first | (k_unfold; (try dsimp only)) | walk1 | (dsimp only; walk1)))
    have hb6 : ∀ x ∈ l.map (·.1), x.length ≤ 12 := by
      rw [hl]; intro x hx
      obtain ⟨y, _, rfl⟩ := List.mem_map.mp hx
      exact txt_len y
    have hl6 : (l.map (·.1)).length ≤ 6 := by rw [hl]; simp; omega
    refine join_rule (l := l) ⟨_, (N1 _ (.head _)).1, rfl, _, rfl⟩ (arr_fold (n := 6) hb6 hl6 (by decide)) (glued_len (n := 6) hb6 hl6 (by decide)) ?_
    intro tk9 n9
    rw [hl]
    (repeat' ((fail_if_success first | (with_reducible show wpAny _ _ (PySem.eval (PySem.Expr.ListComp _ _ _ _) _) _ _ _) | (with_reducible show wpAny _ _ (subscriptTail _ _ (Value.ref _) (Value.int _ _)) _ _ _) | (with_reducible show wpAny _ _ (call (Value.builtin "str.join") _) _ _ _) | (with_reducible show LCg.CompSrc _ _ _ _ _ _ _ _ _ _ _ _ _ _) | (with_reducible show LCg.CompEnd _ _ _ _ _ _ _ _ _ _ _ _ _ _) | (with_reducible show LCg.FinE _ _ _ _ _ _ _)); first | (k_unfold; (try dsimp only)) | walk1 | (dsimp only; walk1)))
    rename (News h₀ L _ _) => N9
    rename (Fr h₀ L _ _) => F9
    exact hret _ _ _ F9 (fun q hq => N9 q (.tail _ (hsub1 q (.tail _ hq))))
end

-- part Kn2
section
/-- countOf's loop -/
def JC (news : List (Addr × Obj)) (bs : List Bool) (i : Nat) (m₁ : Str → Option Value) (news₁ : List (Addr × Obj)) : Prop :=
  (∃ t, m₁ "count" = some (.int (((bs.take i).count true : Nat) : Int) t)) ∧ m₁ "b" = some (.bool true) ∧ news₁ = news
theorem count_step {bs : List Bool} {i : Nat} {b : Bool} (h : bs[i]? = some b) : (bs.take (i + 1)).count true = (bs.take i).count true + (if b then 1 else 0) := by
  rw [List.take_add_one, h, List.count_append]
  cases b <;> simp
set_option maxHeartbeats 4000000 in
theorem countof_spec (w : World) (p : Program) (loose : List Str) (mean : ExcName → Option Value) (mg mb : Str → Option Value)
  (dp un : Nat) (gd : Option (List Code)) (cn : Str) (cs : Scope) (a : Addr) (ccd : Value) (cl : List (Str × Addr)) (outer : List Env) (A₀ : Around) (base h₀ : Heap) (L : Addr) (m : Str → Option Value) (news : List (Addr × Obj)) (s : Shared) 
    (l : Addr) (bs : List Bool) (e : Nat) (Q E : Value → Shared → Prop)
    (B : Below A₀ base outer h₀) (F : Fr h₀ L s.heap m) (X : (hd.heap_39 w.params).In h₀) (N : News h₀ L s.heap news) (T : Top p loose mean mg mb h₀) (hk : cs.kind = .function) 
    (hl : (l, lstO (bs.map .bool) e) ∈ news) (hlen : bs.length ≤ 8) (hdp : dp + 1 < recursionLimit) (hu : un + 16 < cLine)
    (hret : ∀ t h' tk', Fr h₀ L h' m → News h₀ L h' news → Q (.int ((bs.count true : Nat) : Int) t) { s with heap := h', toks := tk' }) :
    wpAny (model prg w) (ktrTop dp un gd cn cs L a ccd cl outer) (call (.ref 108) [.ref l, .bool true]) Q E s := by
  w_top off
  have : (PySem.Challenge.rw_re0071_01, hd.heap_39) = (PySem.Challenge.rw_re0071_01, hd.heap_39) := by
    k_fill
    rfl
  clear this
  refine wpAny_call ?_
  k_dflt cell_enter
  (repeat' ((fail_if_success first | (with_reducible show wpAny _ _ (exec (PySem.Stmt.For _ _ _ _ _) _) _ _ _)); first | (k_unfold; (try dsimp only)) | walk1 | (dsimp only; walk1)))
  refine For_turns (by assumption) ?_
  walk1
  rename (News _ _ _ _) => N1
  refine list_inv (ax := l) (lo := lstO (bs.map .bool) e) (vs := bs.map .bool) (n := e) (JC news bs) rfl (by k_asm) N1 hl rfl rfl ⟨⟨_, rfl⟩, rfl, rfl⟩ ?turn ?done
  case turn =>
    intro I i v m₁ news₁ h tk oI hI hv hJ hoff F₁ N₁
    obtain ⟨⟨t, hm1⟩, hm2, rfl⟩ := hJ
    rw [map_one hm1] at F₁
    rw [map_one (x := "b") (v := .bool true) (m := fun y => if y = Str.ofString "count" then some (Value.int (((bs.take i).count true : Nat) : Int) t) else m₁ y) (by rw [if_neg (by decide)]; exact hm2)] at F₁
    have hcl : (bs.take i).count true ≤ 8 := Nat.le_trans (List.count_le_length) (by rw [List.length_take]; omega)
    rw [List.getElem?_map] at hv
    obtain ⟨b, hb, rfl⟩ : ∃ b, bs[i]? = some b ∧ Value.bool b = v := by simpa using hv
    have hcs := count_step hb
    cases b with
    | true =>
      (repeat' ((fail_if_success first | (with_reducible show wpAny _ _ (exec (PySem.Stmt.For _ _ _ _ _) _) _ _ _)); first | (k_unfold; (try dsimp only)) | walk1 | (dsimp only; walk1)))
      exact ⟨_, _, _, news₁, rfl, by assumption, by assumption, hoff, hl, ⟨_, by rw [hcs]; rfl⟩, rfl, rfl⟩
    | false =>
      (repeat' ((fail_if_success first | (with_reducible show wpAny _ _ (exec (PySem.Stmt.For _ _ _ _ _) _) _ _ _)); first | (k_unfold; (try dsimp only)) | walk1 | (dsimp only; walk1)))
      exact ⟨_, _, _, news₁, rfl, by assumption, by assumption, hoff, hl, ⟨_, by rw [hcs]; rfl⟩, rfl, rfl⟩
  case done =>
    intro m₁ news₁ h tk hJ F₁ N₁
    obtain ⟨⟨t, hm1⟩, hm2, rfl⟩ := hJ
    rw [map_one hm1] at F₁
    rw [List.length_map, List.take_length] at F₁
    (repeat' ((fail_if_success first | (with_reducible show wpAny _ _ (exec (PySem.Stmt.For _ _ _ _ _) _) _ _ _)); first | (k_unfold; (try dsimp only)) | walk1 | (dsimp only; walk1)))
    exact hret _ _ _ (by k_asm) (by k_asm)
end

-- part Ke
section
section
variable {prog : Program} {w : World} {A : Around} {E : Value → Shared → Prop} {s : Shared} {env : Env} {h₀ : Heap} {body orelse : List Stmt} {Q : Flow → Shared → Prop}

/-- a turn's end of the loop over enumerate -/
def EnEnd (h₀ : Heap) (L : Addr) (J : (Str → Option Value) → Prop) (news : List (Addr × Obj)) (e it : Addr) (oe oi : Obj) (s₁ : Shared) (Q : Flow → Shared → Prop) (f : Flow) (s₂ : Shared) : Prop :=
  match f with
  | .ret v => Q (.ret v) s₂
  | .brk => Q .next s₂
  | _ => ∃ h' tk m', s₂ = { s₁ with heap := h', toks := tk } ∧ Fr h₀ L h' m' ∧ News h₀ L h' ((e, oe) :: (it, oi) :: news) ∧ J m'

theorem enum_else {elts : List Expr} {k : Nat} {pos : Pos} {l : Addr} {vs : List Value} {n : Nat} {m₀ : Str → Option Value} {news : List (Addr × Obj)} (J : Nat → (Str → Option Value) → Prop)
    (hh : A.handled = none) (F : Fr h₀ env.locals s.heap m₀) (N : News h₀ env.locals s.heap news) (hm : (l, lstO vs n) ∈ news) (hj : J 0 m₀) (hE : PassesOwn (model prog w) A env E)
    (turn : ∀ e it (i : Nat) T t x m₁ h tk oe oi, vs[i]? = some x → IsTup h T #[.int (i : Int) t, x] → J i m₁ → Fr h₀ env.locals h m₁ → News h₀ env.locals h ((e, oe) :: (it, oi) :: news) →
      wpAny (model prog w) A (assign (.Tuple elts k pos) env (.ref T)) (fun _ s₂ => wpAny (model prog w) A (execs body env) (EnEnd h₀ env.locals (J (i + 1)) news e it oe oi { s with heap := h, toks := tk } Q) E s₂) E { s with heap := h, toks := tk })
    (done : ∀ m₁ h tk, J vs.length m₁ → Fr h₀ env.locals h m₁ → News h₀ env.locals h news → wpAny (model prog w) A (execs orelse env) Q E { s with heap := h, toks := tk }) :
    wpAny (model prog w) A (call (.type "enumerate") [.ref l]) (fun xv s₁ => wpAny (model prog w) A (pyIter xv) (fun it s₂ => codeAny (model prog w) A (.forLoop (.Tuple elts k pos) it body orelse env) (fun r s' => match r with | .ok f => Q f s' | .error e => cameBackBy (model prog w) A env E e s') s₂) E s₁) E s := by
  have hax := N _ hm
  have hl : s.heap.IsList l vs.toArray := ⟨_, hax.1, rfl, n, rfl⟩
  have hlt : @LT.lt Nat _ l s.heap.objs.size := Heap.lt_size hax.1
  have hLs : @LT.lt Nat _ env.locals s.heap.objs.size := F.ns.lt
  refine call_enumerate_list hl fun h' hE0 hI0 hsz hk => ?_
  refine wpAny_pyIter_enum hE0 ?_
  generalize hIt : s.heap.objs.size = it at *
  have d1 : @Ne Nat (it + 1) it := by omega
  have d2 : @Ne Nat l (it + 1) := by omega
  have d3 : @Ne Nat l it := by omega
  have d4 : @Ne Nat env.locals (it + 1) := by omega
  have d5 : @Ne Nat env.locals it := by omega
  have W := WalksT.enumerate (prog := prog) (w := w) hh (it + 1) it l d1 d2 d3 vs.toArray
  have new1 : h₀.get? (it + 1) = none := ktu_new F (by rw [hIt]; exact Nat.le_succ _)
  have new0 : h₀.get? it = none := ktu_new F (by rw [hIt]; exact Nat.le_refl _)
  have offn : ∀ p ∈ news, p.1 ∉ [it + 1, it] := by
    intro p hp hi
    have z : @LT.lt Nat _ p.1 s.heap.objs.size := Heap.lt_size (N p hp).1
    rw [hIt] at z
    simp only [List.mem_cons, List.not_mem_nil, or_false] at hi
    rcases hi with e | e
    · have e' : @Eq Nat p.1 (it + 1) := e; omega
    · have e' : @Eq Nat p.1 it := e; omega
  have offh : ∀ b o, h₀.get? b = some o → b ∉ [it + 1, it] := by
    intro b o e hi
    simp only [List.mem_cons, List.not_mem_nil, or_false] at hi
    rcases hi with q | q
    · rw [q, new1] at e; cases e
    · rw [q, new0] at e; cases e
  have offL : env.locals ∉ [it + 1, it] := by
    intro hi
    simp only [List.mem_cons, List.not_mem_nil, or_false] at hi
    rcases hi with e | e
    · exact d4 e
    · exact d5 e
  have step : ∀ {g g' : Heap} {m' : Str → Option Value}, Fr h₀ env.locals g m' → News h₀ env.locals g news → (∀ b o, b ∉ [it + 1, it] → g.get? b = some o → g'.get? b = some o) → Fr h₀ env.locals g' m' ∧ News h₀ env.locals g' news := fun F' N' hk' =>
    ⟨⟨F'.ns.at' fun o e => hk' _ o offL e, fun b o e => hk' b o (offh b o e) (F'.keep b o e), F'.above⟩, fun p hp => ⟨hk' _ _ (offn p hp) (N' p hp).1, (N' p hp).2⟩⟩
  refine codeAny_forLoop_any (fun kk s' => ∃ h' tk, ∃ i : Nat, ∃ m', s' = { s with heap := h', toks := tk } ∧ ((∃ old, IsEnum h' (it + 1) it i old) ∧ h'.IsListIter it l i ∧ h'.IsList l vs.toArray) ∧ Fr h₀ env.locals h' m' ∧ News h₀ env.locals h' news ∧ J i m' ∧ i ≤ vs.length ∧ kk = vs.length + 1 - i) ?_ (vs.length + 1)
    ⟨h', s.toks, 0, m₀, rfl, ⟨⟨_, hE0⟩, hI0, hl.at fun o e => hk l o e⟩, F.keeps hk, N.grown hk, hj, Nat.zero_le _, rfl⟩
  rintro kk s' ⟨h', tk, i, m', rfl, hst, F', N', hJ, hi, rfl⟩
  have hsz' : vs.toArray.size = vs.length := by simp
  by_cases hlt2 : i < vs.length
  · refine W.item i _ _ _ (by rw [hsz']; exact hlt2) hst fun T vals h₁ tk₁ hP hTle hT hMid hk₁ => ?_
    obtain ⟨t, x, hx, rfl⟩ := hP
    obtain ⟨F1, N1⟩ := step F' N' hk₁
    refine W.go elts k pos i T _ _ _ hMid fun h₂ st₂ hk₂ => ?_
    obtain ⟨F2, N2⟩ := step F1 N1 hk₂
    have hT2 : IsTup h₂ T #[.int (i : Int) t, x] := Heap.IsTuple.at hT fun o e => hk₂ T o (W.apart i T _ hMid) e
    obtain ⟨⟨old, he⟩, ⟨oi, hoi, hic, hid⟩, hl2⟩ := st₂
    obtain ⟨oe, hoe⟩ : ∃ oe, h₂.get? (it + 1) = some oe := ⟨_, he⟩
    have N3 : News h₀ env.locals h₂ ((it + 1, oe) :: (it, oi) :: news) := by
      intro p hp
      simp only [List.mem_cons] at hp
      rcases hp with rfl | rfl | hp
      · exact ⟨hoe, Ne.symm d4, new1⟩
      · exact ⟨hoi, Ne.symm d5, new0⟩
      · exact N2 p hp
    refine wpAny_mono (wpAny_passesOwn hE (turn (it + 1) it i T t x m' h₂ tk₁ oe oi (by simpa using hx) hT2 hJ F2 N3)) (fun _ s₂ hb => wpAny_mono (wpAny_passesOwn hE hb) (fun f s₃ hf => ?_) fun _ _ z => z) fun _ _ z => z
    have fin : (∃ h' tk m', s₃ = { s with heap := h', toks := tk } ∧ Fr h₀ env.locals h' m' ∧ News h₀ env.locals h' ((it + 1, oe) :: (it, oi) :: news) ∧ J (i + 1) m') → ∃ m, m < vs.length + 1 - i ∧ ∃ h' tk, ∃ i' : Nat, ∃ m', s₃ = { s with heap := h', toks := tk } ∧ ((∃ old, IsEnum h' (it + 1) it i' old) ∧ h'.IsListIter it l i' ∧ h'.IsList l vs.toArray) ∧ Fr h₀ env.locals h' m' ∧ News h₀ env.locals h' news ∧ J i' m' ∧ i' ≤ vs.length ∧ m = vs.length + 1 - i' := by
      rintro ⟨h₃, tk₃, m₃, rfl, F3, N4, J3⟩
      have z1 := (N4 _ (.head _)).1
      have z2 := (N4 _ (.tail _ (.head _))).1
      have z3 := (N4 _ (.tail _ (.tail _ hm))).1
      refine ⟨vs.length + 1 - (i + 1), by omega, h₃, tk₃, i + 1, m₃, rfl, ⟨⟨old, ?_⟩, ⟨oi, z2, hic, hid⟩, ⟨_, z3, rfl, n, rfl⟩⟩, F3, fun p hp => N4 p (.tail _ (.tail _ hp)), J3, hlt2, rfl⟩
      have he' : h₂.get? (it + 1) = some _ := he
      rw [hoe] at he'
      cases he'
      exact z1
    cases f with
    | ret v => exact hf
    | brk => exact hf
    | next => exact fin hf
    | cont => exact fin hf
  · obtain rfl : i = vs.length := Nat.le_antisymm hi (Nat.not_lt.mp hlt2)
    refine W.done _ _ _ (by rw [hsz']; exact hst) fun h₁ tk₁ hk₁ => ?_
    obtain ⟨F1, N1⟩ := step F' N' hk₁
    exact wpAny_passesOwn hE (done m' h₁ tk₁ hJ F1 N1)
end
end

-- part Kx
section
section
variable {prog : Program} {w : World} {A₀ A : Around} {s : Shared} {base h₀ : Heap} {L : Addr} {m : Str → Option Value} {news : List (Addr × Obj)} {K : Frag} {p : Program} {loose : List Str} {mean : ExcName → Option Value} {mg mb : Str → Option Value} {env : Env}
    {R : Result → Shared → Prop} {name qual : Str} {params : Arguments} {body : List Stmt} {scope : Scope} {dV kV doc pm cdv ct oc : Value} {an od : Option Addr} {osl : Array (Option Value)} {f : Addr} {args : Args} {binds : List (Str × Value)}
/-- a def with a try in it, called from the lowest frame, which may have cells -/
theorem code_defSX (B : Below A₀ base [] h₀) (F : Fr h₀ L s.heap m) (X₀ : K.In h₀) (N : News h₀ L s.heap news) (T : Top p loose mean mg mb h₀) (hA : A.frames = some [env]) (hf : env.frame = some L) (hke : env.scope.kind = .function)
    (ho : K.lookup f = some ⟨oc, od, .func (fnOf name qual params body scope dV kV doc pm an cdv ct), osl⟩) (hcd : codeIn K cdv qual = true) (hroom : A.depth < recursionLimit)
    (hbind : BindsTo s (fnOf name qual params body scope dV kV doc pm an cdv ct) args binds) (hloc : ∀ y ∈ binds, scope.names.lookup y.1 = some .local)
    (h : ∀ g L' h₁, Fr h₀ L g m → Fr g L' h₁ (fun y => binds.reverse.lookup y) → News g L' h₁ news → Below A base [env] g → K.In g → Top p loose mean mg mb g → KtsDicts ([env].filterMap (·.frame)) g →
      wpAny (model prog w) (A.deeper (envOf qual scope L' f cdv)) (execs body (envOf qual scope L' f cdv))
        (fun fl s' => LeaveS0 ([env].filterMap (·.frame)) h₀ L m g R (match fl with | .ret v => v | _ => .none) s')
        (fun e s' => wpAny (model prog w) (A.deeper (envOf qual scope L' f cdv)) (leaving (envOf qual scope L' f cdv) e) (fun _ s'' => R (.error e) s'') (fun e' s'' => R (.error e') s'') s')
        { s with heap := h₁, toks := s.toks + binds.length })
    (hcell : ∀ x ∈ scope.names, x.2 ≠ .cell) (hco : scope.isCoroutine = false := by rfl) (hgen : scope.isGenerator = false := by rfl) (hk : scope.kind = .function := by rfl) : codeAny (model prog w) A (.call (.ref f) args) R s := by
  have X := X₀.keeps F.keep
  obtain ⟨FG, BG, st, _⟩ := groundX (R := R) B F N hA hf hke
  have hfs : ∀ b, b ∈ [env].filterMap (·.frame) → b = L := by
    intro b hb
    obtain ⟨e, he, hfe⟩ := List.mem_filterMap.mp hb
    rw [List.mem_singleton.mp he, hf] at hfe
    exact (Option.some.inj hfe).symm
  have nL₀ : h₀.get? L = none := kts_self F
  refine codeAny_call_def (fd := fnOf name qual params body scope dV kV doc pm an cdv ct) (body := body) (binds := binds) hroom (X _ _ ho) rfl (T.nolimit.keeps F.keep) (codeRec_of X hcd) rfl hbind hcell hloc (fun h₁ hns hk₁ => ?_) hco hgen hk
  obtain ⟨oL, es, ep, hL, hLd, hLk, hLf⟩ := id FG.ns
  refine wpAny_mono (h _ s.heap.objs.size h₁ FG ⟨hns, fun b o e => hk₁ b o (of_hideAll _ e), Nat.le_of_eq (hideAll_size _ _)⟩
    (fun q hq => ⟨hk₁ _ _ (N q hq).1, Nat.ne_of_lt (Heap.lt_size (N q hq).1), hideAll_none _ (List.mem_map_of_mem hq)⟩) BG (X₀.keeps st) (T.keeps st) (fun b hb => by
      rw [hfs b hb]; exact ⟨oL, es, ep, hL, hLd⟩)) (fun fl s' hl => ?_) fun _ _ y => y
  obtain ⟨g', L', m', news', T', F', N', k⟩ := hl
  obtain ⟨sl, hs⟩ := T'.up hL
  refine k ⟨⟨_, es, ep, F'.keep _ _ hs, hLd, hLk, hLf⟩, fun b o e => F'.keep b o (T'.other b o (st b o e) (fun q => by
    rw [hfs b q, nL₀] at e; cases e)), F.above⟩ fun q hq => ⟨(N' q hq).1, fun z => ?_, ?_⟩
  · have := (N' q hq).2.2; rw [z, hs] at this; cases this
  · cases z : h₀.get? q.1 with
    | none => rfl
    | some o =>
      obtain ⟨sl', hs'⟩ := T'.up (st _ _ z)
      have := (N' q hq).2.2
      rw [hs'] at this
      cases this
end
end

-- part Kp2
section
/-- indexOf's loop -/
def JX (bs : List Bool) (i : Nat) (m₁ : Str → Option Value) : Prop := m₁ "b" = some (.bool true) ∧ (bs.take i).findIdx? id = none
theorem idx_miss {bs : List Bool} {i : Nat} (h : (bs.take i).findIdx? id = none) (hb : bs[i]? = some false) : (bs.take (i + 1)).findIdx? id = none := by
  rw [List.take_add_one, hb, List.findIdx?_append, h]; rfl
theorem idx_hit {bs : List Bool} {i : Nat} (h : (bs.take i).findIdx? id = none) (hb : bs[i]? = some true) : bs.findIdx? id = some i := by
  have hl : i < bs.length := by
    rcases Nat.lt_or_ge i bs.length with h | h
    · exact h
    · rw [List.getElem?_eq_none h] at hb; cases hb
  have e : bs = bs.take i ++ true :: bs.drop (i + 1) := by
    have h1 : bs.drop i = true :: bs.drop (i + 1) := by
      rw [List.drop_eq_getElem_cons hl]
      congr 1
      rw [List.getElem?_eq_getElem hl] at hb
      exact Option.some.inj hb
    rw [← h1, List.take_append_drop]
  have e2 := congrArg (List.findIdx? id) e
  rw [e2, List.findIdx?_append, h, List.findIdx?_cons, List.length_take, Nat.min_eq_left (Nat.le_of_lt hl)]
  simp
set_option maxHeartbeats 4000000 in
theorem place_spec (w : World) (p : Program) (loose : List Str) (mean : ExcName → Option Value) (mg mb : Str → Option Value)
  (dp un : Nat) (gd : Option (List Code)) (cn : Str) (cs : Scope) (a : Addr) (ccd : Value) (cl : List (Str × Addr)) (A₀ : Around) (base h₀ : Heap) (L : Addr) (m : Str → Option Value) (news : List (Addr × Obj)) (s : Shared) 
    (l : Addr) (bs : List Bool) (e : Nat) (Q E : Value → Shared → Prop)
    (B : Below A₀ base [] h₀) (F : Fr h₀ L s.heap m) (X : (hd.heap_39 w.params).In h₀) (N : News h₀ L s.heap news) (T : Top p loose mean mg mb h₀) (hk : cs.kind = .function) (XB : (hd.heap_39 w.params).In base) (TB : Top p loose mean mg mb base)
    (hl : (l, lstO (bs.map .bool) e) ∈ news) (hlen : bs.length ≤ 8) (hdp : dp + 2 < recursionLimit) (hu : un + 32 < cLine)
    (hret : ∀ v h' tk', (match bs.findIdx? id with | some i => ∃ t, v = .int ((i : Nat) : Int) t | none => ∃ t, v = .str "refused" t) → Fr h₀ L h' m → News h₀ L h' news → Q v { s with heap := h', toks := tk' }) :
    wpAny (model prg w) (ktrTop dp un gd cn cs L a ccd cl []) (call (.ref 163) [.ref l]) Q E s := by
  w_top off
  have : (PySem.Challenge.rw_re0071_01, hd.heap_39) = (PySem.Challenge.rw_re0071_01, hd.heap_39) := by
    k_fill
    rfl
  clear this
  refine wpAny_call ?_
  k_dflt ((refine' code_defSX ?k1 ?k2 ?k3 ?k4 ?k5 ?kA ?kF ?kK ?k6 ?k7 ?k8 ?k9 ?kB ?_ ?c5 ?c2 ?c3 ?c4; (case kA => exact rfl); (case kF => exact rfl); (case kK => assumption); (case k1 => k_asm); (case k2 => k_asm); (case k3 => k_asm); (case k4 => k_asm); (case k5 => k_asm); (case k6 => k_is); (case k7 => k_is); (case k8 => ktr_room); (case k9 => exact BindsTo.of_eq rfl); (case c5 => decide); (case kB => exact locs rfl); (case c2 => exact rfl); (case c3 => exact rfl); (case c4 => exact rfl); k_whole; intro g' L' h' FG' F' N' B' X' T' D'; (try dsimp only); (try k_lift B'); (try k_fold)))
  (repeat' ((fail_if_success first | (with_reducible show wpAny _ _ (exec (PySem.Stmt.For _ _ _ _ _) _) _ _ _) | (with_reducible show wpAny _ _ (call (Value.type "enumerate") _) _ _ _)); first | (k_unfold; (try dsimp only)) | walk1 | (dsimp only; walk1)))
  refine wpAny_call ?_
  k_dflt ((refine' code_def ?k1 ?k2 ?k3 ?k4 ?k5 ?kA ?kF ?kK ?k6 ?k7 ?k8 ?k9 ?kB ?_ ?c2 ?c3 ?c4 ?c5; (case kA => exact rfl); (case kF => exact rfl); (case kK => exact rfl); (case k1 => k_asm); (case k2 => k_asm); (case k3 => k_asm); (case k4 => k_asm); (case k5 => k_asm); (case k6 => k_is); (case k7 => k_is); (case k8 => ktr_room); (case k9 => exact BindsTo.of_eq rfl); (case c5 => decide); (case kB => exact locs rfl); (case c2 => exact rfl); (case c3 => exact rfl); (case c4 => exact rfl); k_whole; intro g' L' h' FG' F' N' B' X' T'; (try dsimp only); (try k_lift B'); (try k_fold)))
  (repeat' ((fail_if_success first | (with_reducible show wpAny _ _ (exec (PySem.Stmt.For _ _ _ _ _) _) _ _ _) | (with_reducible show wpAny _ _ (call (Value.type "enumerate") _) _ _ _)); first | (k_unfold; (try dsimp only)) | walk1 | (dsimp only; walk1)))
  refine wpAny_For ?_
  (repeat' ((fail_if_success first | (with_reducible show wpAny _ _ (exec (PySem.Stmt.For _ _ _ _ _) _) _ _ _) | (with_reducible show wpAny _ _ (call (Value.type "enumerate") _) _ _ _)); first | (k_unfold; (try dsimp only)) | walk1 | (dsimp only; walk1)))
  refine enum_else (vs := bs.map .bool) (n := e) (JX bs) rfl (by k_asm) (by k_asm) hl ⟨rfl, rfl⟩ (by passes_own) ?_ ?_
  · intro e1 it i T t x m₁ h tk oe oi hx hT hJ F₁ N₁
    obtain ⟨hm2, hJ⟩ := hJ
    rw [map_one hm2] at F₁
    rw [List.getElem?_map] at hx
    obtain ⟨b, hb, rfl⟩ : ∃ b, bs[i]? = some b ∧ Value.bool b = x := by simpa using hx
    cases b with
    | true =>
      (repeat' ((fail_if_success first | (with_reducible show wpAny _ _ (exec (PySem.Stmt.For _ _ _ _ _) _) _ _ _) | (with_reducible show wpAny _ _ (call (Value.type "enumerate") _) _ _ _)); first | (k_unfold; (try dsimp only)) | walk1 | (dsimp only; walk1)))
      dsimp only [EnEnd]
      (repeat' ((fail_if_success first | (with_reducible show wpAny _ _ (exec (PySem.Stmt.For _ _ _ _ _) _) _ _ _) | (with_reducible show wpAny _ _ (call (Value.type "enumerate") _) _ _ _)); first | (k_unfold; (try dsimp only)) | walk1 | (dsimp only; walk1)))
      exact hret _ _ _ (by rw [idx_hit hJ hb]; exact ⟨_, rfl⟩) (by assumption) (by rename (News h₀ L _ _) => N9; exact fun q hq => N9 q (by repeat (first | exact hq | apply List.mem_cons_of_mem)))
    | false =>
      (repeat' ((fail_if_success first | (with_reducible show wpAny _ _ (exec (PySem.Stmt.For _ _ _ _ _) _) _ _ _) | (with_reducible show wpAny _ _ (call (Value.type "enumerate") _) _ _ _)); first | (k_unfold; (try dsimp only)) | walk1 | (dsimp only; walk1)))
      exact ⟨_, _, _, rfl, by assumption, by assumption, rfl, idx_miss hJ hb⟩
  · intro m₁ h tk hJ F₁ N₁
    have hJ2 := hJ.2
    rw [List.length_map, List.take_length] at hJ2
    (repeat' ((fail_if_success first | (with_reducible show wpAny _ _ (exec (PySem.Stmt.For _ _ _ _ _) _) _ _ _) | (with_reducible show wpAny _ _ (call (Value.type "enumerate") _) _ _ _)); first | (k_unfold; (try dsimp only)) | walk1 | (dsimp only; walk1)))
    exact hret _ _ _ (by rw [hJ2]; exact ⟨_, rfl⟩) (by assumption) (by assumption)
end

-- part Lg
section
/-- the law's scope, as the machine makes it -/
abbrev lawScope : Scope :=
  { kind := .function
    names := [("script", .local), ("numbers", .local), ("both", .cell), ("left", .cell), ("right", .cell), ("width", .local), ("middles", .local), ("ahead", .cell), ("after", .cell), ("number", .local), ("alike", .local), ("fits", .local), ("wanted", .local),
      ("len", .globalImplicit), ("_law_pair", .globalImplicit), ("_law_row", .globalImplicit), ("_law_changed", .globalImplicit), ("_law_turned", .globalImplicit), ("_law_rows_of", .globalImplicit), ("range", .globalImplicit), ("countOf", .globalImplicit), ("_law_place", .globalImplicit), ("split_header_words", .globalImplicit)]
    isGenerator := false
    isCoroutine := false
    more := [("fast", .str "script"), ("fast", .str "numbers"), ("fast", .str "both"), ("fast", .str "left"), ("fast", .str "right"), ("fast", .str "width"), ("fast", .str "middles"), ("fast", .str "middle"), ("fast", .str "ahead"), ("fast", .str "after"), ("fast", .str "number"), ("fast", .str "alike"), ("fast", .str "fits"), ("fast", .str "wanted"), ("fast", .str "k")] }
abbrev lawEnv (L fa : Addr) (cd : Value) : Env := envOfC "law" lawScope L fa cd
abbrev lawA (L fa : Addr) (cd : Value) : Around := callerA.deeper (lawEnv L fa cd)
/-- the law's ledger: five cells, two tables, and the rest -/
abbrev cellsL (L : Addr) (c5 c4 c3 c2 c1 : Obj) (t8 t6 : Array Value) (rest : List (Addr × Obj)) : List (Addr × Obj) :=
  (L + 1 + 1 + 1 + 1 + 1, c5) :: (L + 1 + 1 + 1 + 1, c4) :: (L + 1 + 1 + 1, c3) :: (L + 1 + 1, c2) :: (L + 1, c1) :: (82, tabObj t8) :: (65, tabObj t6) :: rest
structure LSep (L : Addr) (rest : List (Addr × Obj)) : Prop where
  r5 : ∀ q ∈ rest, @Ne Nat q.1 (L + 1 + 1 + 1 + 1 + 1)
  r4 : ∀ q ∈ rest, @Ne Nat q.1 (L + 1 + 1 + 1 + 1)
  r3 : ∀ q ∈ rest, @Ne Nat q.1 (L + 1 + 1 + 1)
  r2 : ∀ q ∈ rest, @Ne Nat q.1 (L + 1 + 1)
  r1 : ∀ q ∈ rest, @Ne Nat q.1 (L + 1)
  r82 : ∀ q ∈ rest, @Ne Nat q.1 82
  r65 : ∀ q ∈ rest, @Ne Nat q.1 65
def isC (o : Obj) : Prop := ∃ v, o.data = .cell v
def isQ (o : Obj) : Prop := ∃ xs n, o.data = .seq xs n
/-- all but the cells and the tables -/
def keepL (L : Addr) (news : List (Addr × Obj)) : List (Addr × Obj) :=
  news.filter fun q => decide ((@Ne Nat q.1 (L + 1 + 1 + 1 + 1 + 1)) ∧ (@Ne Nat q.1 (L + 1 + 1 + 1 + 1)) ∧ (@Ne Nat q.1 (L + 1 + 1 + 1)) ∧ (@Ne Nat q.1 (L + 1 + 1)) ∧ (@Ne Nat q.1 (L + 1)) ∧ (@Ne Nat q.1 82) ∧ (@Ne Nat q.1 65))
theorem keepL_mem {L : Addr} {news : List (Addr × Obj)} {q : Addr × Obj} : q ∈ keepL L news ↔ q ∈ news ∧ (@Ne Nat q.1 (L + 1 + 1 + 1 + 1 + 1)) ∧ (@Ne Nat q.1 (L + 1 + 1 + 1 + 1)) ∧ (@Ne Nat q.1 (L + 1 + 1 + 1)) ∧ (@Ne Nat q.1 (L + 1 + 1)) ∧ (@Ne Nat q.1 (L + 1)) ∧ (@Ne Nat q.1 82) ∧ (@Ne Nat q.1 65) := by
  unfold keepL; rw [List.mem_filter, decide_eq_true_iff]
theorem keepL_sep (L : Addr) (news : List (Addr × Obj)) : LSep L (keepL L news) :=
  ⟨fun q h => (keepL_mem.mp h).2.1, fun q h => (keepL_mem.mp h).2.2.1, fun q h => (keepL_mem.mp h).2.2.2.1, fun q h => (keepL_mem.mp h).2.2.2.2.1, fun q h => (keepL_mem.mp h).2.2.2.2.2.1, fun q h => (keepL_mem.mp h).2.2.2.2.2.2.1, fun q h => (keepL_mem.mp h).2.2.2.2.2.2.2⟩
theorem keepL_sub {L : Addr} {rest news : List (Addr × Obj)} (S : LSep L rest) (h : ∀ q ∈ rest, q ∈ news) : ∀ q ∈ rest, q ∈ keepL L news := fun q hq =>
  keepL_mem.mpr ⟨h q hq, S.r5 q hq, S.r4 q hq, S.r3 q hq, S.r2 q hq, S.r1 q hq, S.r82 q hq, S.r65 q hq⟩
section
variable {g h : Heap} {L : Addr} {c5 c4 c3 c2 c1 : Obj} {t8 t6 : Array Value} {rest news : List (Addr × Obj)}
theorem resplit (N : News g L h news) (hs : ∀ q ∈ cellsL L c5 c4 c3 c2 c1 t8 t6 [], q ∈ news) : News g L h (cellsL L c5 c4 c3 c2 c1 t8 t6 (keepL L news)) := fun q hq => by
  simp only [cellsL, List.mem_cons] at hq
  have e : q ∈ cellsL L c5 c4 c3 c2 c1 t8 t6 [] ∨ q ∈ keepL L news := by
    simp only [cellsL, List.mem_cons, List.not_mem_nil, or_false]
    rcases hq with h | h | h | h | h | h | h | h <;> simp [h]
  rcases e with e | e
  · exact N q (hs q e)
  · exact N q (keepL_mem.mp e).1
/-- a sequence is neither a cell nor a table -/
theorem keepL_seq (N : News g L h news) (k5 : isC c5) (k4 : isC c4) (k3 : isC c3) (k2 : isC c2) (k1 : isC c1) (hs : ∀ q ∈ cellsL L c5 c4 c3 c2 c1 t8 t6 [], q ∈ news) {q : Addr × Obj} (hq : q ∈ news) (hd : isQ q.2) : q ∈ keepL L news := by
  have z : ∀ {p : Addr × Obj}, p ∈ news → (isC p.2 ∨ ∃ ps, p.2 = tabObj ps) → @Ne Nat q.1 p.1 := by
    intro p hp hpd e
    have e1 := (N _ hq).1
    have e2 := (N _ hp).1
    have e' : q.1 = p.1 := e
    rw [e'] at e1
    have e3 : q.2 = p.2 := Option.some.inj (e1.symm.trans e2)
    obtain ⟨xs, n, hx⟩ := hd
    rw [e3] at hx
    rcases hpd with ⟨v, hv⟩ | ⟨ps, hv⟩
    · rw [hx] at hv; cases hv
    · rw [hv] at hx; cases hx
  refine keepL_mem.mpr ⟨hq, z (hs _ (.head _)) (.inl k5), z (hs _ (.tail _ (.head _))) (.inl k4), z (hs _ (.tail _ (.tail _ (.head _)))) (.inl k3), z (hs _ (.tail _ (.tail _ (.tail _ (.head _))))) (.inl k2), z (hs _ (.tail _ (.tail _ (.tail _ (.tail _ (.head _)))))) (.inl k1), z (hs _ (.tail _ (.tail _ (.tail _ (.tail _ (.tail _ (.head _))))))) (.inr ⟨_, rfl⟩), z (hs _ (.tail _ (.tail _ (.tail _ (.tail _ (.tail _ (.tail _ (.head _)))))))) (.inr ⟨_, rfl⟩)⟩
end
/-- facts about sequences go over to a ledger that keeps the sequences -/
def SeqSub (n n' : List (Addr × Obj)) : Prop := ∀ q ∈ n, isQ q.2 → q ∈ n'
theorem RowAt.seq {n n' : List (Addr × Obj)} {r : Addr} {row : List Nat} (h : SeqSub n n') : RowAt n r row → RowAt n' r row
  | ⟨ys, e, h1, h2⟩ => ⟨ys, e, h _ h1 ⟨_, _, rfl⟩, h2⟩
theorem PairIn.seq {n n' : List (Addr × Obj)} {v : Value} {p : KV} (h : SeqSub n n') : PairIn n v p → PairIn n' v p
  | ⟨t, tk, u, e, hm, hv⟩ => ⟨t, tk, u, e, h _ hm ⟨_, _, rfl⟩, hv⟩
theorem PairsIn.seq {n n' : List (Addr × Obj)} (h : SeqSub n n') : ∀ {vs : List Value} {ps : List KV}, PairsIn n vs ps → PairsIn n' vs ps
  | [], [], _ => trivial
  | _ :: _, _ :: _, ⟨a, r⟩ => ⟨a.seq h, PairsIn.seq h r⟩
theorem WordIn.seq {n n' : List (Addr × Obj)} {v : Value} {l : List KV} (h : SeqSub n n') : WordIn n v l → WordIn n' v l
  | ⟨r, ts, e, a, b, c⟩ => ⟨r, ts, e, a, h _ b ⟨_, _, rfl⟩, c.seq h⟩
theorem WordsIn.seq {n n' : List (Addr × Obj)} (h : SeqSub n n') : ∀ {vs : List Value} {ps : List (List KV)}, WordsIn n vs ps → WordsIn n' vs ps
  | [], [], _ => trivial
  | _ :: _, _ :: _, ⟨a, r⟩ => ⟨a.seq h, WordsIn.seq h r⟩
theorem PairAt.seq {n n' : List (Addr × Obj)} {r : Addr} {f g : Nat} (h : SeqSub n n') : PairAt n r f g → PairAt n' r f g
  | ⟨a, b, e, L1, t1, e1, L2, t2, e2, h1, h2, h3, h4, h5⟩ => ⟨a, b, e, L1, t1, e1, L2, t2, e2, h _ h1 ⟨_, _, rfl⟩, h _ h2 ⟨_, _, rfl⟩, h _ h3 ⟨_, _, rfl⟩, h4.seq h, h5.seq h⟩
theorem RowsIn.seq {n n' : List (Addr × Obj)} (h : SeqSub n n') : ∀ {vs : List Value} {ps : List (List Nat)}, RowsIn n vs ps → RowsIn n' vs ps
  | [], [], _ => trivial
  | _ :: _, _ :: _, ⟨⟨a, e, x⟩, r⟩ => ⟨⟨a, e, x.seq h⟩, RowsIn.seq h r⟩

section
variable {M : Model} {A : Around} {E : Value → Shared → Prop} {s : Shared} {g₀ : Heap} {L fa : Addr} {cd : Value} {m : Str → Option Value} {v : Value} {Q : Unit → Shared → Prop} {c5 c4 c3 c2 c1 : Obj} {t8 t6 : Array Value} {rest : List (Addr × Obj)}
theorem store_gen {env : Env} {x : Str} {c : Addr} {oc : Obj} {pre post : List (Addr × Obj)} (hk : env.scope.kind = .function) (hx : env.kindOf x = some .cell) (hl : env.cells.lookup x = some c) (hoc : isC oc) (F : Fr g₀ L s.heap m) (N : News g₀ L s.heap (pre ++ (c, oc) :: post)) (h1 : ∀ q ∈ pre, q.1 ≠ c) (h2 : ∀ q ∈ post, q.1 ≠ c)
    (next : ∀ h' oc', Fr g₀ L h' m → News g₀ L h' (pre ++ (c, oc') :: post) → oc'.data = .cell (some v) → Q () { s with heap := h' }) : wpAny M A (storeName env x v) Q E s := by
  obtain ⟨v0, hd⟩ := hoc
  have hm := N (c, oc) (List.mem_append_right _ (.head _))
  refine wpAny_storeName_cell hk hx hl ⟨oc, hm.1, hd⟩ fun h' hv hs => ?_
  obtain ⟨oc', e, hd'⟩ := hv
  refine next h' oc' (F.change hs hm.2.1 hm.2.2) (fun q hq => ?_) hd'
  rcases List.mem_append.mp hq with hq | hq
  · exact ⟨hs.extBut _ _ (h1 q hq) (N q (List.mem_append_left _ hq)).1, (N q (List.mem_append_left _ hq)).2⟩
  · rcases List.mem_cons.mp hq with rfl | hq
    · exact ⟨e, hm.2⟩
    · exact ⟨hs.extBut _ _ (h2 q hq) (N q (List.mem_append_right _ (.tail _ hq))).1, (N q (List.mem_append_right _ (.tail _ hq))).2⟩
theorem nlt {a b : Nat} (h : a < b) : @Ne Nat a b := Nat.ne_of_lt h
theorem store_both (l0 : @LT.lt Nat _ 82 L ∧ @LT.lt Nat _ 65 L) (S : LSep L rest) (k : isC c1) (F : Fr g₀ L s.heap m) (N : News g₀ L s.heap (cellsL L c5 c4 c3 c2 c1 t8 t6 rest))
    (next : ∀ h' c1', Fr g₀ L h' m → News g₀ L h' (cellsL L c5 c4 c3 c2 c1' t8 t6 rest) → c1'.data = .cell (some v) → Q () { s with heap := h' }) : wpAny M A (storeName (lawEnv L fa cd) "both" v) Q E s :=
  store_gen (c := L + 1) (pre := [(L + 1 + 1 + 1 + 1 + 1, c5), (L + 1 + 1 + 1 + 1, c4), (L + 1 + 1 + 1, c3), (L + 1 + 1, c2)]) (post := (82, tabObj t8) :: (65, tabObj t6) :: rest) rfl rfl rfl k F N
    (by intro q hq; simp only [List.mem_cons, List.not_mem_nil, or_false] at hq; rcases hq with rfl | rfl | rfl | rfl <;> (show @Ne Nat _ _; dsimp only; omega))
    (by intro q hq; rcases List.mem_cons.mp hq with rfl | hq; exact nlt (by have := l0.1; exact Nat.lt_succ_of_lt this); rcases List.mem_cons.mp hq with rfl | hq; exact nlt (Nat.lt_succ_of_lt l0.2); exact S.r1 q hq) next
theorem store_left (l0 : @LT.lt Nat _ 82 L ∧ @LT.lt Nat _ 65 L) (S : LSep L rest) (k : isC c2) (F : Fr g₀ L s.heap m) (N : News g₀ L s.heap (cellsL L c5 c4 c3 c2 c1 t8 t6 rest))
    (next : ∀ h' c2', Fr g₀ L h' m → News g₀ L h' (cellsL L c5 c4 c3 c2' c1 t8 t6 rest) → c2'.data = .cell (some v) → Q () { s with heap := h' }) : wpAny M A (storeName (lawEnv L fa cd) "left" v) Q E s :=
  store_gen (c := L + 1 + 1) (pre := [(L + 1 + 1 + 1 + 1 + 1, c5), (L + 1 + 1 + 1 + 1, c4), (L + 1 + 1 + 1, c3)]) (post := (L + 1, c1) :: (82, tabObj t8) :: (65, tabObj t6) :: rest) rfl rfl rfl k F N
    (by intro q hq; simp only [List.mem_cons, List.not_mem_nil, or_false] at hq; rcases hq with rfl | rfl | rfl <;> (show @Ne Nat _ _; dsimp only; omega))
    (by intro q hq; rcases List.mem_cons.mp hq with rfl | hq; exact nlt (Nat.lt_succ_self _); rcases List.mem_cons.mp hq with rfl | hq; exact nlt (Nat.lt_succ_of_lt (Nat.lt_succ_of_lt l0.1)); rcases List.mem_cons.mp hq with rfl | hq; exact nlt (Nat.lt_succ_of_lt (Nat.lt_succ_of_lt l0.2)); exact S.r2 q hq) next
theorem store_right (l0 : @LT.lt Nat _ 82 L ∧ @LT.lt Nat _ 65 L) (S : LSep L rest) (k : isC c3) (F : Fr g₀ L s.heap m) (N : News g₀ L s.heap (cellsL L c5 c4 c3 c2 c1 t8 t6 rest))
    (next : ∀ h' c3', Fr g₀ L h' m → News g₀ L h' (cellsL L c5 c4 c3' c2 c1 t8 t6 rest) → c3'.data = .cell (some v) → Q () { s with heap := h' }) : wpAny M A (storeName (lawEnv L fa cd) "right" v) Q E s :=
  store_gen (c := L + 1 + 1 + 1) (pre := [(L + 1 + 1 + 1 + 1 + 1, c5), (L + 1 + 1 + 1 + 1, c4)]) (post := (L + 1 + 1, c2) :: (L + 1, c1) :: (82, tabObj t8) :: (65, tabObj t6) :: rest) rfl rfl rfl k F N
    (by intro q hq; simp only [List.mem_cons, List.not_mem_nil, or_false] at hq; rcases hq with rfl | rfl <;> (show @Ne Nat _ _; dsimp only; omega))
    (by intro q hq; simp only [List.mem_cons] at hq; rcases hq with rfl | rfl | rfl | rfl | hq <;> first | exact S.r3 q hq | (have := l0.1; have := l0.2; show @Ne Nat _ _; dsimp only; omega)) next
theorem store_ahead (l0 : @LT.lt Nat _ 82 L ∧ @LT.lt Nat _ 65 L) (S : LSep L rest) (k : isC c4) (F : Fr g₀ L s.heap m) (N : News g₀ L s.heap (cellsL L c5 c4 c3 c2 c1 t8 t6 rest))
    (next : ∀ h' c4', Fr g₀ L h' m → News g₀ L h' (cellsL L c5 c4' c3 c2 c1 t8 t6 rest) → c4'.data = .cell (some v) → Q () { s with heap := h' }) : wpAny M A (storeName (lawEnv L fa cd) "ahead" v) Q E s :=
  store_gen (c := L + 1 + 1 + 1 + 1) (pre := [(L + 1 + 1 + 1 + 1 + 1, c5)]) (post := (L + 1 + 1 + 1, c3) :: (L + 1 + 1, c2) :: (L + 1, c1) :: (82, tabObj t8) :: (65, tabObj t6) :: rest) rfl rfl rfl k F N
    (by intro q hq; simp only [List.mem_cons, List.not_mem_nil, or_false] at hq; rcases hq with rfl; (show @Ne Nat _ _; dsimp only; omega))
    (by intro q hq; simp only [List.mem_cons] at hq; rcases hq with rfl | rfl | rfl | rfl | rfl | hq <;> first | exact S.r4 q hq | (have := l0.1; have := l0.2; show @Ne Nat _ _; dsimp only; omega)) next
theorem store_after (l0 : @LT.lt Nat _ 82 L ∧ @LT.lt Nat _ 65 L) (S : LSep L rest) (k : isC c5) (F : Fr g₀ L s.heap m) (N : News g₀ L s.heap (cellsL L c5 c4 c3 c2 c1 t8 t6 rest))
    (next : ∀ h' c5', Fr g₀ L h' m → News g₀ L h' (cellsL L c5' c4 c3 c2 c1 t8 t6 rest) → c5'.data = .cell (some v) → Q () { s with heap := h' }) : wpAny M A (storeName (lawEnv L fa cd) "after" v) Q E s :=
  store_gen (c := L + 1 + 1 + 1 + 1 + 1) (pre := []) (post := (L + 1 + 1 + 1 + 1, c4) :: (L + 1 + 1 + 1, c3) :: (L + 1 + 1, c2) :: (L + 1, c1) :: (82, tabObj t8) :: (65, tabObj t6) :: rest) rfl rfl rfl k F N
    (by intro q hq; cases hq)
    (by intro q hq; simp only [List.mem_cons] at hq; rcases hq with rfl | rfl | rfl | rfl | rfl | rfl | hq <;> first | exact S.r5 q hq | (have := l0.1; have := l0.2; show @Ne Nat _ _; dsimp only; omega)) next
theorem cells_sub {L : Addr} {c5 c4 c3 c2 c1 : Obj} {t8 t6 : Array Value} {rest : List (Addr × Obj)} : ∀ q ∈ cellsL L c5 c4 c3 c2 c1 t8 t6 [], q ∈ cellsL L c5 c4 c3 c2 c1 t8 t6 rest := by
  intro q hq
  simp only [cellsL, List.mem_cons, List.not_mem_nil, or_false] at hq ⊢
  rcases hq with h | h | h | h | h | h | h <;> simp [h]
theorem cells_rest {L : Addr} {c5 c4 c3 c2 c1 : Obj} {t8 t6 : Array Value} {rest : List (Addr × Obj)} : ∀ q ∈ rest, q ∈ cellsL L c5 c4 c3 c2 c1 t8 t6 rest := fun q hq => .tail _ (.tail _ (.tail _ (.tail _ (.tail _ (.tail _ (.tail _ hq))))))
end
end

-- part L1
section
set_option maxHeartbeats 1000000 in
theorem st_both (w : World) (p : Program) (loose : List Str) (mean : ExcName → Option Value) (mg mb : Str → Option Value) (g₀ : Heap) (L fa : Addr) (cd : Value) (m : Str → Option Value) (rest : List (Addr × Obj)) (c5 c4 c3 c2 c1 : Obj) (t8 t6 : Array Value) (s : Shared) (Q : Flow → Shared → Prop)
    (X : (hd.heap_39 w.params).In g₀) (K : Below callerA g₀ [] g₀) (T : Top p loose mean mg mb g₀) (l0 : @LT.lt Nat _ 82 L ∧ @LT.lt Nat _ 65 L)
    (F : Fr g₀ L s.heap m) (N : News g₀ L s.heap (cellsL L c5 c4 c3 c2 c1 t8 t6 rest)) (S : LSep L rest) (k5 : isC c5) (k4 : isC c4) (k3 : isC c3) (k2 : isC c2) (k1 : isC c1)
    (D : Addr) (a b c d : Int) (ta tb tc td : Tok) (r8 : List Value) (hm : m "numbers" = some (.ref D)) (hD : (D, lstO (.int a ta :: .int b tb :: .int c tc :: .int d td :: r8) 0) ∈ rest) (p1 p2 p3 p4 p5 p6 p7 : Pos)
    (next : ∀ r f g h tk c1' rest', f < 6 → g < 6 → f ≠ g → Fr g₀ L h m → News g₀ L h (cellsL L c5 c4 c3 c2 c1' t8 t6 rest') → LSep L rest' → (∀ q ∈ rest, q ∈ rest') → c1'.data = .cell (some (.ref r)) → PairAt rest' r f g → Q .next { s with heap := h, toks := tk }) :
    wpAny (model prg w) (lawA L fa cd) (PySem.exec (.Assign [.Name "both" p1] (.Call (.Name "_law_pair" p2) [.Subscript (.Name "numbers" p3) (.Constant (.int 0) 0 p4) p5] [] p6) p7) (lawEnv L fa cd)) Q (fun _ _ => False) s := by
  w_top off
  have : (PySem.Challenge.rw_re0071_01, hd.heap_39) = (PySem.Challenge.rw_re0071_01, hd.heap_39) := by
    k_fill
    rfl
  clear this
  rw [map_one hm] at F
  (repeat' ((fail_if_success first | (with_reducible show wpAny _ _ (PySem.eval (PySem.Expr.ListComp _ _ _ _) _) _ _ _) | (with_reducible show wpAny _ _ (subscriptTail _ _ (Value.ref _) (Value.int _ _)) _ _ _) | (with_reducible show wpAny _ _ (call (Value.ref _) _) _ _ _) | (with_reducible show LCg.CompSrc _ _ _ _ _ _ _ _ _ _ _ _ _ _) | (with_reducible show LCg.CompEnd _ _ _ _ _ _ _ _ _ _ _ _ _ _) | (with_reducible show LCg.FinE _ _ _ _ _ _ _)); first | (k_unfold; (try dsimp only)) | walk1 | (dsimp only; walk1)))
  refine item_K (.int a ta) (by k_asm) (.tail _ (.tail _ (.tail _ (.tail _ (.tail _ (.tail _ (.tail _ hD))))))) (by decide) (by decide) rfl ?_
  (repeat' ((fail_if_success first | (with_reducible show wpAny _ _ (PySem.eval (PySem.Expr.ListComp _ _ _ _) _) _ _ _) | (with_reducible show wpAny _ _ (subscriptTail _ _ (Value.ref _) (Value.int _ _)) _ _ _) | (with_reducible show wpAny _ _ (call (Value.ref _) _) _ _ _) | (with_reducible show LCg.CompSrc _ _ _ _ _ _ _ _ _ _ _ _ _ _) | (with_reducible show LCg.CompEnd _ _ _ _ _ _ _ _ _ _ _ _ _ _) | (with_reducible show LCg.FinE _ _ _ _ _ _ _)); first | (k_unfold; (try dsimp only)) | walk1 | (dsimp only; walk1)))
  refine' pair_spec _ _ _ _ _ _ _ _ _ _ _ _ _ _ _ _ _ _ _ _ _ _ _ _ _ _ ?B ?F ?X ?N ?T ?hk ?hd ?hu ?hr
  case B => k_asm
  case F => k_asm
  case X => k_asm
  case N => exact N
  case T => k_asm
  case hk => exact rfl
  case hd => ktr_room
  case hu => ktr_units
  intro r f g h tk news' hf hg hfg F2 N2 hs hnw hP
  have hc : ∀ q ∈ cellsL L c5 c4 c3 c2 c1 t8 t6 [], q ∈ news' := fun q hq => hs q (cells_sub q hq)
  have N3 := resplit N2 hc
  have S3 := keepL_sep L news'
  have hP3 := hP.seq fun q hq hd => keepL_seq N2 k5 k4 k3 k2 k1 hc hq hd
  have hsub := keepL_sub S fun q hq => hs q (cells_rest q hq)
  clear N hP hD hs hnw N2 hc
  generalize keepL L news' = rest' at *
  (repeat' ((fail_if_success first | (with_reducible show wpAny _ _ (PySem.eval (PySem.Expr.ListComp _ _ _ _) _) _ _ _) | (with_reducible show wpAny _ _ (subscriptTail _ _ (Value.ref _) (Value.int _ _)) _ _ _) | (with_reducible show wpAny _ _ (call (Value.ref _) _) _ _ _) | (with_reducible show LCg.CompSrc _ _ _ _ _ _ _ _ _ _ _ _ _ _) | (with_reducible show LCg.CompEnd _ _ _ _ _ _ _ _ _ _ _ _ _ _) | (with_reducible show LCg.FinE _ _ _ _ _ _ _)); first | (k_unfold; (try dsimp only)) | walk1 | (dsimp only; walk1)))
  refine store_both l0 S3 k1 F2 N3 fun h9 c1' F9 N9 d9 => ?_
  exact next r f g h9 _ c1' rest' hf hg hfg (by rw [map_one hm]; exact F9) N9 S3 hsub d9 hP3
end

-- part L2
section
set_option maxHeartbeats 1000000 in
theorem st_left (w : World) (p : Program) (loose : List Str) (mean : ExcName → Option Value) (mg mb : Str → Option Value) (g₀ : Heap) (L fa : Addr) (cd : Value) (m : Str → Option Value) (rest : List (Addr × Obj)) (c5 c4 c3 c2 c1 : Obj) (t8 t6 : Array Value) (s : Shared) (Q : Flow → Shared → Prop)
    (X : (hd.heap_39 w.params).In g₀) (K : Below callerA g₀ [] g₀) (T : Top p loose mean mg mb g₀) (l0 : @LT.lt Nat _ 82 L ∧ @LT.lt Nat _ 65 L) (C8 : CodeHd g₀ 86 82) (C6 : CodeHd g₀ 69 65)
    (F : Fr g₀ L s.heap m) (N : News g₀ L s.heap (cellsL L c5 c4 c3 c2 c1 t8 t6 rest)) (S : LSep L rest) (k5 : isC c5) (k4 : isC c4) (k3 : isC c3) (k2 : isC c2) (k1 : isC c1)
    (D : Addr) (a b c d : Int) (ta tb tc td : Tok) (r8 : List Value) (hm : m "numbers" = some (.ref D)) (hD : (D, lstO (.int a ta :: .int b tb :: .int c tc :: .int d td :: r8) 0) ∈ rest) (p1 p2 p3 p4 p5 p6 p7 : Pos)
    (next : ∀ r row h tk c2' rest', 1 ≤ row.length → row.length ≤ 3 → (∀ b ∈ row, b < 2) → Fr g₀ L h m → News g₀ L h (cellsL L c5 c4 c3 c2' c1 t8 t6 rest') → LSep L rest' → (∀ q ∈ rest, q ∈ rest') → c2'.data = .cell (some (.ref r)) → RowAt rest' r row → Q .next { s with heap := h, toks := tk }) :
    wpAny (model prg w) (lawA L fa cd) (PySem.exec (.Assign [.Name "left" p1] (.Call (.Name "_law_row" p2) [.Subscript (.Name "numbers" p3) (.Constant (.int 1) 0 p4) p5] [] p6) p7) (lawEnv L fa cd)) Q (fun _ _ => False) s := by
  w_top off
  have : (PySem.Challenge.rw_re0071_01, hd.heap_39) = (PySem.Challenge.rw_re0071_01, hd.heap_39) := by
    k_fill
    rfl
  clear this
  rw [map_one hm] at F
  (repeat' ((fail_if_success first | (with_reducible show wpAny _ _ (PySem.eval (PySem.Expr.ListComp _ _ _ _) _) _ _ _) | (with_reducible show wpAny _ _ (subscriptTail _ _ (Value.ref _) (Value.int _ _)) _ _ _) | (with_reducible show wpAny _ _ (call (Value.ref _) _) _ _ _) | (with_reducible show LCg.CompSrc _ _ _ _ _ _ _ _ _ _ _ _ _ _) | (with_reducible show LCg.CompEnd _ _ _ _ _ _ _ _ _ _ _ _ _ _) | (with_reducible show LCg.FinE _ _ _ _ _ _ _)); first | (k_unfold; (try dsimp only)) | walk1 | (dsimp only; walk1)))
  refine item_K (.int b tb) (by k_asm) (.tail _ (.tail _ (.tail _ (.tail _ (.tail _ (.tail _ (.tail _ hD))))))) (by decide) (by decide) rfl ?_
  (repeat' ((fail_if_success first | (with_reducible show wpAny _ _ (PySem.eval (PySem.Expr.ListComp _ _ _ _) _) _ _ _) | (with_reducible show wpAny _ _ (subscriptTail _ _ (Value.ref _) (Value.int _ _)) _ _ _) | (with_reducible show wpAny _ _ (call (Value.ref _) _) _ _ _) | (with_reducible show LCg.CompSrc _ _ _ _ _ _ _ _ _ _ _ _ _ _) | (with_reducible show LCg.CompEnd _ _ _ _ _ _ _ _ _ _ _ _ _ _) | (with_reducible show LCg.FinE _ _ _ _ _ _ _)); first | (k_unfold; (try dsimp only)) | walk1 | (dsimp only; walk1)))
  refine' row_spec _ _ _ _ _ _ _ _ _ _ _ _ _ _ _ _ _ _ _ _ _ _ _ _ _ _ ?B ?F ?X ?N ?T ?hk ?hd ?hu ?hr
  case B => k_asm
  case F => k_asm
  case X => k_asm
  case N => exact N
  case T => k_asm
  case hk => exact rfl
  case hd => ktr_room
  case hu => ktr_units
  intro r row h tk news' h1 h3 hb F2 N2 hs hnw hR
  have hc3 : ∀ q ∈ cellsL L c5 c4 c3 c2 c1 t8 t6 [], q ∈ news' := fun q hq => hs q (cells_sub q hq)
  have N3 := resplit N2 hc3
  have S3 := keepL_sep L news'
  have hsub3 := keepL_sub S fun q hq => hs q (cells_rest q hq)
  have hsq3 : SeqSub news' (keepL L news') := fun q hq hd => keepL_seq N2 k5 k4 k3 k2 k1 hc3 hq hd
  have hR3 := hR.seq hsq3
  clear N hR hD hs hnw N2 hc3 hsq3
  generalize keepL L news' = rest' at *
  (repeat' ((fail_if_success first | (with_reducible show wpAny _ _ (PySem.eval (PySem.Expr.ListComp _ _ _ _) _) _ _ _) | (with_reducible show wpAny _ _ (subscriptTail _ _ (Value.ref _) (Value.int _ _)) _ _ _) | (with_reducible show wpAny _ _ (call (Value.ref _) _) _ _ _) | (with_reducible show LCg.CompSrc _ _ _ _ _ _ _ _ _ _ _ _ _ _) | (with_reducible show LCg.CompEnd _ _ _ _ _ _ _ _ _ _ _ _ _ _) | (with_reducible show LCg.FinE _ _ _ _ _ _ _)); first | (k_unfold; (try dsimp only)) | walk1 | (dsimp only; walk1)))
  refine store_left l0 S3 k2 F2 N3 fun h9 c2' F9 N9 d9 => ?_
  exact next r row h9 _ c2' rest' h1 h3 hb (by rw [map_one hm]; exact F9) N9 S3 hsub3 d9 hR3
set_option maxHeartbeats 1000000 in
theorem st_width (w : World) (p : Program) (loose : List Str) (mean : ExcName → Option Value) (mg mb : Str → Option Value) (g₀ : Heap) (L fa : Addr) (cd : Value) (m : Str → Option Value) (rest : List (Addr × Obj)) (c5 c4 c3 c2 c1 : Obj) (t8 t6 : Array Value) (s : Shared) (Q : Flow → Shared → Prop)
    (X : (hd.heap_39 w.params).In g₀) (K : Below callerA g₀ [] g₀) (T : Top p loose mean mg mb g₀) (l0 : @LT.lt Nat _ 82 L ∧ @LT.lt Nat _ 65 L) (C8 : CodeHd g₀ 86 82) (C6 : CodeHd g₀ 69 65)
    (F : Fr g₀ L s.heap m) (N : News g₀ L s.heap (cellsL L c5 c4 c3 c2 c1 t8 t6 rest)) (S : LSep L rest) (k5 : isC c5) (k4 : isC c4) (k3 : isC c3) (k2 : isC c2) (k1 : isC c1)
    (D : Addr) (a b c d : Int) (ta tb tc td : Tok) (r8 : List Value) (hm : m "numbers" = some (.ref D)) (hD : (D, lstO (.int a ta :: .int b tb :: .int c tc :: .int d td :: r8) 0) ∈ rest) (p1 p2 p3 p4 p5 p6 p7 : Pos)
    (next : ∀ (z : Nat) (t : Tok) h tk, z < 4 → Fr g₀ L h (fun y => if y = Str.ofString "width" then some (.int (z : Int) t) else m y) → News g₀ L h (cellsL L c5 c4 c3 c2 c1 t8 t6 rest) → Q .next { s with heap := h, toks := tk }) :
    wpAny (model prg w) (lawA L fa cd) (PySem.exec (.Assign [.Name "width" p1] (.BinOp (.Subscript (.Name "numbers" p2) (.Constant (.int 3) 0 p3) p4) .Mod (.Constant (.int 4) 0 p5) p6) p7) (lawEnv L fa cd)) Q (fun _ _ => False) s := by
  have : (PySem.Challenge.rw_re0071_01, hd.heap_39) = (PySem.Challenge.rw_re0071_01, hd.heap_39) := by
    k_fill
    rfl
  clear this
  rw [map_one hm] at F
  (repeat' ((fail_if_success first | (with_reducible show wpAny _ _ (PySem.eval (PySem.Expr.ListComp _ _ _ _) _) _ _ _) | (with_reducible show wpAny _ _ (subscriptTail _ _ (Value.ref _) (Value.int _ _)) _ _ _) | (with_reducible show wpAny _ _ (call (Value.ref _) _) _ _ _) | (with_reducible show LCg.CompSrc _ _ _ _ _ _ _ _ _ _ _ _ _ _) | (with_reducible show LCg.CompEnd _ _ _ _ _ _ _ _ _ _ _ _ _ _) | (with_reducible show LCg.FinE _ _ _ _ _ _ _)); first | (k_unfold; (try dsimp only)) | walk1 | (dsimp only; walk1)))
  refine item_K (.int d td) (by k_asm) (.tail _ (.tail _ (.tail _ (.tail _ (.tail _ (.tail _ (.tail _ hD))))))) (by decide) (by decide) rfl ?_
  have e4 : d.fmod 4 = (((d.fmod 4).toNat : Nat) : Int) := (Int.toNat_of_nonneg (Int.fmod_nonneg_of_pos _ (by decide))).symm
  have l4 : (d.fmod 4).toNat < 4 := by have := Int.fmod_lt_of_pos d (b := 4) (by decide); omega
  (repeat' ((fail_if_success first | (with_reducible show wpAny _ _ (PySem.eval (PySem.Expr.ListComp _ _ _ _) _) _ _ _) | (with_reducible show wpAny _ _ (subscriptTail _ _ (Value.ref _) (Value.int _ _)) _ _ _) | (with_reducible show wpAny _ _ (call (Value.ref _) _) _ _ _) | (with_reducible show LCg.CompSrc _ _ _ _ _ _ _ _ _ _ _ _ _ _) | (with_reducible show LCg.CompEnd _ _ _ _ _ _ _ _ _ _ _ _ _ _) | (with_reducible show LCg.FinE _ _ _ _ _ _ _)); first | (k_unfold; (try dsimp only)) | walk1 | (dsimp only; walk1)))
  rename (Fr _ _ _ _) => F9
  rename (News _ _ _ _) => N9
  exact next _ _ _ _ l4 (by rw [map_one hm, ← e4]; exact F9) N9
set_option maxHeartbeats 1000000 in
theorem st_right (w : World) (p : Program) (loose : List Str) (mean : ExcName → Option Value) (mg mb : Str → Option Value) (g₀ : Heap) (L fa : Addr) (cd : Value) (m : Str → Option Value) (rest : List (Addr × Obj)) (c5 c4 c3 c2 c1 : Obj) (t8 t6 : Array Value) (s : Shared) (Q : Flow → Shared → Prop)
    (X : (hd.heap_39 w.params).In g₀) (K : Below callerA g₀ [] g₀) (T : Top p loose mean mg mb g₀) (l0 : @LT.lt Nat _ 82 L ∧ @LT.lt Nat _ 65 L) (C8 : CodeHd g₀ 86 82) (C6 : CodeHd g₀ 69 65)
    (F : Fr g₀ L s.heap m) (N : News g₀ L s.heap (cellsL L c5 c4 c3 c2 c1 t8 t6 rest)) (S : LSep L rest) (k5 : isC c5) (k4 : isC c4) (k3 : isC c3) (k2 : isC c2) (k1 : isC c1)
    (D : Addr) (a b c d : Int) (ta tb tc td : Tok) (r8 : List Value) (hm : m "numbers" = some (.ref D)) (hD : (D, lstO (.int a ta :: .int b tb :: .int c tc :: .int d td :: r8) 0) ∈ rest) (rl : Addr) (row : List Nat) (hl : c2.data = .cell (some (.ref rl))) (hR : RowAt rest rl row) (h1 : 1 ≤ row.length) (h3 : row.length ≤ 3) (hb : ∀ b ∈ row, b < 2) (p1 p2 p3 p4 p5 p6 p7 p8 p9 pa pb pc pd pe pf : Pos)
    (next : ∀ r row' h tk c3' rest', row'.length = row.length → (∀ b ∈ row', b < 2) → Fr g₀ L h m → News g₀ L h (cellsL L c5 c4 c3' c2 c1 t8 t6 rest') → LSep L rest' → (∀ q ∈ rest, q ∈ rest') → c3'.data = .cell (some (.ref r)) → RowAt rest' r row' → Q .next { s with heap := h, toks := tk }) :
    wpAny (model prg w) (lawA L fa cd) (PySem.exec (.Assign [.Name "right" p1] (.Call (.Name "_law_changed" p2) [.Call (.Name "_law_turned" p3) [.Name "left" p4, .BinOp (.Subscript (.Name "numbers" p5) (.Constant (.int 2) 0 p6) p7) .Mod (.Constant (.int 3) 0 p8) p9] [] pa, .Subscript (.Name "numbers" pb) (.Constant (.int 2) 0 pc) pd] [] pe) pf) (lawEnv L fa cd)) Q (fun _ _ => False) s := by
  have : (PySem.Challenge.rw_re0071_01, hd.heap_39) = (PySem.Challenge.rw_re0071_01, hd.heap_39) := by
    k_fill
    rfl
  clear this
  rw [map_one hm] at F
  have e3 : c.fmod 3 = (((c.fmod 3).toNat : Nat) : Int) := (Int.toNat_of_nonneg (Int.fmod_nonneg_of_pos _ (by decide))).symm
  generalize (c.fmod 3).toNat = z at e3
  (repeat' ((fail_if_success first | (with_reducible show wpAny _ _ (PySem.eval (PySem.Expr.ListComp _ _ _ _) _) _ _ _) | (with_reducible show wpAny _ _ (subscriptTail _ _ (Value.ref _) (Value.int _ _)) _ _ _) | (with_reducible show wpAny _ _ (call (Value.ref _) _) _ _ _) | (with_reducible show LCg.CompSrc _ _ _ _ _ _ _ _ _ _ _ _ _ _) | (with_reducible show LCg.CompEnd _ _ _ _ _ _ _ _ _ _ _ _ _ _) | (with_reducible show LCg.FinE _ _ _ _ _ _ _)); first | (k_unfold; (try dsimp only)) | walk1 | (dsimp only; walk1)))
  refine item_K (.int c tc) (by k_asm) (.tail _ (.tail _ (.tail _ (.tail _ (.tail _ (.tail _ (.tail _ hD))))))) (by decide) (by decide) rfl ?_
  (repeat' ((fail_if_success first | (with_reducible show wpAny _ _ (PySem.eval (PySem.Expr.ListComp _ _ _ _) _) _ _ _) | (with_reducible show wpAny _ _ (subscriptTail _ _ (Value.ref _) (Value.int _ _)) _ _ _) | (with_reducible show wpAny _ _ (call (Value.ref _) _) _ _ _) | (with_reducible show LCg.CompSrc _ _ _ _ _ _ _ _ _ _ _ _ _ _) | (with_reducible show LCg.CompEnd _ _ _ _ _ _ _ _ _ _ _ _ _ _) | (with_reducible show LCg.FinE _ _ _ _ _ _ _)); first | (k_unfold; (try dsimp only)) | walk1 | (dsimp only; walk1)))
  rw [e3]
  refine' turned_spec _ _ _ _ _ _ _ _ _ _ _ _ _ _ _ _ _ _ _ _ _ _ _ _ _ _ _ _ ?B ?F ?X ?N ?T ?hk ?hR h1 h3 ?hd ?hu ?hr
  case B => k_asm
  case F => k_asm
  case X => k_asm
  case N => exact N
  case T => k_asm
  case hk => exact rfl
  case hR => exact hR.mono fun q hq => cells_rest q hq
  case hd => ktr_room
  case hu => ktr_units
  intro r1 h2 tk2 news1 F2 N2 hs1 hnw1 hR1
  have hlen : (row.drop (z % row.length) ++ row.take (z % row.length)).length = row.length := by simp only [List.length_append, List.length_drop, List.length_take]; have := Nat.mod_lt z h1; omega
  have hbit : ∀ b ∈ row.drop (z % row.length) ++ row.take (z % row.length), b < 2 := by
    intro b hq
    rcases List.mem_append.mp hq with hq | hq
    · exact hb b (List.mem_of_mem_drop hq)
    · exact hb b (List.mem_of_mem_take hq)
  generalize row.drop (z % row.length) ++ row.take (z % row.length) = row1 at *
  clear N F
  (repeat' ((fail_if_success first | (with_reducible show wpAny _ _ (PySem.eval (PySem.Expr.ListComp _ _ _ _) _) _ _ _) | (with_reducible show wpAny _ _ (subscriptTail _ _ (Value.ref _) (Value.int _ _)) _ _ _) | (with_reducible show wpAny _ _ (call (Value.ref _) _) _ _ _) | (with_reducible show LCg.CompSrc _ _ _ _ _ _ _ _ _ _ _ _ _ _) | (with_reducible show LCg.CompEnd _ _ _ _ _ _ _ _ _ _ _ _ _ _) | (with_reducible show LCg.FinE _ _ _ _ _ _ _)); first | (k_unfold; (try dsimp only)) | walk1 | (dsimp only; walk1)))
  refine item_K (.int c tc) (by k_asm) (hs1 _ (.tail _ (.tail _ (.tail _ (.tail _ (.tail _ (.tail _ (.tail _ hD)))))))) (by decide) (by decide) rfl ?_
  (repeat' ((fail_if_success first | (with_reducible show wpAny _ _ (PySem.eval (PySem.Expr.ListComp _ _ _ _) _) _ _ _) | (with_reducible show wpAny _ _ (subscriptTail _ _ (Value.ref _) (Value.int _ _)) _ _ _) | (with_reducible show wpAny _ _ (call (Value.ref _) _) _ _ _) | (with_reducible show LCg.CompSrc _ _ _ _ _ _ _ _ _ _ _ _ _ _) | (with_reducible show LCg.CompEnd _ _ _ _ _ _ _ _ _ _ _ _ _ _) | (with_reducible show LCg.FinE _ _ _ _ _ _ _)); first | (k_unfold; (try dsimp only)) | walk1 | (dsimp only; walk1)))
  refine' changed_spec _ _ _ _ _ _ _ _ _ _ _ _ _ _ _ _ _ _ _ _ _ _ _ _ _ _ _ _ ?B9 ?F9 ?X9 ?N9 ?T9 ?hk9 ?hR9 ?h19 ?h39 ?hb9 ?hd9 ?hu9 ?hr9
  case B9 => k_asm
  case F9 => k_asm
  case X9 => k_asm
  case N9 => exact N2
  case T9 => k_asm
  case hk9 => exact rfl
  case hR9 => exact hR1
  case h19 => omega
  case h39 => omega
  case hb9 => exact hbit
  case hd9 => ktr_room
  case hu9 => ktr_units
  intro r2 row2 h5 tk5 news' hlen2 hbit2 F3 N4 hs2 hnw2 hR2
  have hs : ∀ q ∈ cellsL L c5 c4 c3 c2 c1 t8 t6 rest, q ∈ news' := fun q hq => hs2 q (hs1 q hq)
  have hc3 : ∀ q ∈ cellsL L c5 c4 c3 c2 c1 t8 t6 [], q ∈ news' := fun q hq => hs q (cells_sub q hq)
  have N3 := resplit N4 hc3
  have S3 := keepL_sep L news'
  have hsub3 := keepL_sub S fun q hq => hs q (cells_rest q hq)
  have hsq3 : SeqSub news' (keepL L news') := fun q hq hd => keepL_seq N4 k5 k4 k3 k2 k1 hc3 hq hd
  have hR3 := hR2.seq hsq3
  clear N2 N4 F2 hR hR1 hR2 hD hs hs1 hs2 hnw1 hnw2 hc3 hsq3
  generalize keepL L news' = rest' at *
  (repeat' ((fail_if_success first | (with_reducible show wpAny _ _ (PySem.eval (PySem.Expr.ListComp _ _ _ _) _) _ _ _) | (with_reducible show wpAny _ _ (subscriptTail _ _ (Value.ref _) (Value.int _ _)) _ _ _) | (with_reducible show wpAny _ _ (call (Value.ref _) _) _ _ _) | (with_reducible show LCg.CompSrc _ _ _ _ _ _ _ _ _ _ _ _ _ _) | (with_reducible show LCg.CompEnd _ _ _ _ _ _ _ _ _ _ _ _ _ _) | (with_reducible show LCg.FinE _ _ _ _ _ _ _)); first | (k_unfold; (try dsimp only)) | walk1 | (dsimp only; walk1)))
  refine store_right l0 S3 k3 F3 N3 fun h9 c3' F9 N9 d9 => ?_
  exact next r2 row2 h9 _ c3' rest' (hlen2.trans hlen) hbit2 (by rw [map_one hm]; exact F9) N9 S3 hsub3 d9 hR3
set_option maxHeartbeats 1000000 in
theorem st_middles (w : World) (p : Program) (loose : List Str) (mean : ExcName → Option Value) (mg mb : Str → Option Value) (g₀ : Heap) (L fa : Addr) (cd : Value) (m : Str → Option Value) (rest : List (Addr × Obj)) (c5 c4 c3 c2 c1 : Obj) (t8 t6 : Array Value) (s : Shared) (Q : Flow → Shared → Prop)
    (X : (hd.heap_39 w.params).In g₀) (K : Below callerA g₀ [] g₀) (T : Top p loose mean mg mb g₀) (l0 : @LT.lt Nat _ 82 L ∧ @LT.lt Nat _ 65 L) (C8 : CodeHd g₀ 86 82) (C6 : CodeHd g₀ 69 65)
    (F : Fr g₀ L s.heap m) (N : News g₀ L s.heap (cellsL L c5 c4 c3 c2 c1 t8 t6 rest)) (S : LSep L rest) (k5 : isC c5) (k4 : isC c4) (k3 : isC c3) (k2 : isC c2) (k1 : isC c1)
    (z : Nat) (tz : Tok) (hz : z < 4) (hm : m "width" = some (.int (z : Int) tz)) (p1 p2 p3 p4 p5 : Pos)
    (next : ∀ r ys h tk rest', Fr g₀ L h (fun y => if y = Str.ofString "middles" then some (.ref r) else m y) → News g₀ L h (cellsL L c5 c4 c3 c2 c1 t8 t6 rest') → LSep L rest' → (∀ q ∈ rest, q ∈ rest') → (r, LCg.lst ys) ∈ rest' → RowsIn rest' ys (rowsOf z) → Q .next { s with heap := h, toks := tk }) :
    wpAny (model prg w) (lawA L fa cd) (PySem.exec (.Assign [.Name "middles" p1] (.Call (.Name "_law_rows_of" p2) [.Name "width" p3] [] p4) p5) (lawEnv L fa cd)) Q (fun _ _ => False) s := by
  have : (PySem.Challenge.rw_re0071_01, hd.heap_39) = (PySem.Challenge.rw_re0071_01, hd.heap_39) := by
    k_fill
    rfl
  clear this
  rw [map_one hm] at F
  (repeat' ((fail_if_success first | (with_reducible show wpAny _ _ (PySem.eval (PySem.Expr.ListComp _ _ _ _) _) _ _ _) | (with_reducible show wpAny _ _ (subscriptTail _ _ (Value.ref _) (Value.int _ _)) _ _ _) | (with_reducible show wpAny _ _ (call (Value.ref _) _) _ _ _) | (with_reducible show LCg.CompSrc _ _ _ _ _ _ _ _ _ _ _ _ _ _) | (with_reducible show LCg.CompEnd _ _ _ _ _ _ _ _ _ _ _ _ _ _) | (with_reducible show LCg.FinE _ _ _ _ _ _ _)); first | (k_unfold; (try dsimp only)) | walk1 | (dsimp only; walk1)))
  refine' rowsof_spec _ _ _ _ _ _ _ _ _ _ _ _ _ _ _ _ _ _ _ _ _ _ _ _ _ _ ?B ?F ?X ?N ?T ?hk hz ?hd ?hu ?hr
  case B => k_asm
  case F => k_asm
  case X => k_asm
  case N => exact N
  case T => k_asm
  case hk => exact rfl
  case hd => ktr_room
  case hu => ktr_units
  intro r ys h2 tk2 news' F2 N2 hs hnw hr hR
  have hc3 : ∀ q ∈ cellsL L c5 c4 c3 c2 c1 t8 t6 [], q ∈ news' := fun q hq => hs q (cells_sub q hq)
  have N3 := resplit N2 hc3
  have S3 := keepL_sep L news'
  have hsub3 := keepL_sub S fun q hq => hs q (cells_rest q hq)
  have hsq3 : SeqSub news' (keepL L news') := fun q hq hd => keepL_seq N2 k5 k4 k3 k2 k1 hc3 hq hd
  have hR3 := hR.seq hsq3
  have hr3 := hsq3 _ hr ⟨_, _, rfl⟩
  clear N F N2 hR hr hs hnw hc3 hsq3
  generalize keepL L news' = rest' at *
  (repeat' ((fail_if_success first | (with_reducible show wpAny _ _ (PySem.eval (PySem.Expr.ListComp _ _ _ _) _) _ _ _) | (with_reducible show wpAny _ _ (subscriptTail _ _ (Value.ref _) (Value.int _ _)) _ _ _) | (with_reducible show wpAny _ _ (call (Value.ref _) _) _ _ _) | (with_reducible show LCg.CompSrc _ _ _ _ _ _ _ _ _ _ _ _ _ _) | (with_reducible show LCg.CompEnd _ _ _ _ _ _ _ _ _ _ _ _ _ _) | (with_reducible show LCg.FinE _ _ _ _ _ _ _)); first | (k_unfold; (try dsimp only)) | walk1 | (dsimp only; walk1)))
  rename (Fr _ _ _ _) => F9
  rename (News _ _ _ _) => N9
  exact next r ys _ _ rest' (by rw [map_one hm]; exact F9) N9 S3 hsub3 hr3 hR3
end

-- part Lt
section
theorem TabOk.weak {ln cl : Nat} {q : Str} {Gd Gd' : Addr → Prop} {n n' : List (Addr × Obj)} {ps : Array Value} (h : ∀ c' oc vs, Gd c' → (c', oc) ∈ n → oc.data = .fields vs → Gd' c' ∧ (c', oc) ∈ n') : TabOk ln cl q Gd n ps → TabOk ln cl q Gd' n' ps
  | .none => .none
  | .some g a b c => .some (h _ _ _ g a b).1 (h _ _ _ g a b).2 b c
/-- a turn's end in a comprehension that grows a table -/
def TabEnd (h₀ : Heap) (L : Addr) (m : Str → Option Value) (s₁ : Shared) (I C D : Addr) (oI oC oD : Obj) (rest : List (Addr × Obj)) (K : Value → Prop) (y : Value) (s₂ : Shared) : Prop :=
  ∃ h' tk' ps' rest', s₂ = { s₁ with heap := h', toks := tk' } ∧ Fr h₀ L h' m ∧ News h₀ L h' ((82, tabObj ps') :: rest') ∧ (∀ q ∈ (I, oI) :: (C, oC) :: (D, oD) :: rest, q ∈ rest') ∧
    TabOk 57 50 jq (fun c' => @Ne Nat c' 65 ∧ @Ne Nat c' I ∧ @Ne Nat c' C ∧ @Ne Nat c' D) rest' ps' ∧ (∀ q ∈ rest', q.1 ≠ 82) ∧ Nw ((I, oI) :: (C, oC) :: (D, oD) :: rest) rest' ∧ K y
section
variable {prog : Program} {w : World} {A : Around} {E : Value → Shared → Prop} {s s₁ : Shared} {h₀ : Heap} {L : Addr} {m : Str → Option Value} {env : Env} {base : List (Addr × Obj)}
theorem CompSrc.inv_tab {elt : Expr} {x : Str} {scope : Scope} {cl : List (Str × Addr)} {Fin : Shared → List Value → List (Addr × Obj) → Prop} {ax : Addr} {vs : List Value} {e : Nat} {ps0 : Array Value} (K : Nat → List Value → Prop) (hh : A.handled = none) (F : Fr h₀ L s₁.heap m) (N : News h₀ L s₁.heap ((82, tabObj ps0) :: base))
    (hm : (ax, lstO vs e) ∈ base) (hsz : vs.length ≤ 2 ^ 20) (h0 : K 0 []) (hT0 : TabOk 57 50 jq (fun c' => @Ne Nat c' 65) base ps0) (hne0 : ∀ q ∈ base, q.1 ≠ 82)
    (turn : ∀ i ys rest ps v I oI C oC D m₂ h tk (E' : Value → Shared → Prop), i < vs.length → K i ys → (∀ q ∈ base, q ∈ rest) → TabOk 57 50 jq (fun c' => @Ne Nat c' 65 ∧ @Ne Nat c' I ∧ @Ne Nat c' C ∧ @Ne Nat c' D) rest ps → (∀ q ∈ rest, q.1 ≠ 82) → vs[i]? = some v → LCg.NsObj oC m₂ → m₂ x = some v → Fr h₀ L h m → News h₀ L h ((I, oI) :: (C, oC) :: (D, LCg.lst ys) :: (82, tabObj ps) :: rest) → (∀ q ∈ rest, q.1 ≠ I ∧ q.1 ≠ C ∧ q.1 ≠ D) → @Ne Nat I C → @Ne Nat I D → @Ne Nat C D → @Ne Nat I 82 → @Ne Nat C 82 → @Ne Nat D 82 →
      wpAny (model prog w) A (eval elt (compEnvC scope cl C env)) (TabEnd h₀ L m { s₁ with heap := h, toks := tk } I C D oI oC (LCg.lst ys) rest (fun y => K (i + 1) (ys ++ [y]))) E' { s₁ with heap := h, toks := tk })
    (fin : ∀ g ys rest ps, K vs.length ys → (∀ q ∈ base, q ∈ rest) → TabOk 57 50 jq (fun c' => @Ne Nat c' 65) rest ps → (∀ q ∈ rest, q.1 ≠ 82) → Fin { s₁ with heap := g } ys ((82, tabObj ps) :: rest)) :
    LCg.CompSrc prog w A h₀ L m env elt x scope cl Fin (.ref ax) s₁ := by
  refine LCg.CompSrc.ledger (its := vs.toArray) hh F N (.tail _ hm) (by rw [List.size_toArray, sizeLine_eq]; omega) fun g => ?_
  refine comp_inv (n := vs.toArray.size) (fun i ys news => ∃ ps rest, news = (82, tabObj ps) :: rest ∧ K i ys ∧ (∀ q ∈ base, q ∈ rest) ∧ TabOk 57 50 jq (fun c' => @Ne Nat c' 65) rest ps ∧ (∀ q ∈ rest, q.1 ≠ 82)) ?_ ?_ vs.toArray.size 0 [] _ (Nat.zero_add _) ⟨ps0, base, rfl, h0, fun _ h => h, hT0, hne0⟩
  · rintro i ys news v I oI C oC D m₂ h tk E' hi ⟨ps, rest, rfl, hK, hsub, hT, hne⟩ hv hC hx F1 N1 off ne
    have offm := off.mem
    have o82 := offm _ (.head _)
    have offr : ∀ q ∈ rest, q.1 ≠ I ∧ q.1 ≠ C ∧ q.1 ≠ D := fun q hq => offm q (.tail _ hq)
    have hT' : TabOk 57 50 jq (fun c' => @Ne Nat c' 65 ∧ @Ne Nat c' I ∧ @Ne Nat c' C ∧ @Ne Nat c' D) rest ps := hT.weak fun c' oc vs h1 h2 _ => ⟨⟨h1, (offr _ h2).1, (offr _ h2).2.1, (offr _ h2).2.2⟩, h2⟩
    refine wpAny_mono (turn i ys rest ps v I oI C oC D m₂ h tk E' (by simpa using hi) hK hsub hT' hne (by simpa using hv) hC hx F1 N1 offr ne.1 ne.2.1 ne.2.2 (Ne.symm o82.1) (Ne.symm o82.2.1) (Ne.symm o82.2.2)) (fun y s₂ h₂ => ?_) fun _ _ e => e
    obtain ⟨h', tk', ps', rest', rfl, F', N', hs', hT2, hne', hnw', hK'⟩ := h₂
    have n82 : ∀ {p : Addr × Obj}, p ∈ rest → p ∈ strip3 I C D rest' := fun hp => strip3_mem.mpr ⟨hs' _ (.tail _ (.tail _ (.tail _ hp))), offr _ hp⟩
    refine ⟨h', tk', (82, tabObj ps') :: strip3 I C D rest', rfl, F', fun q hq => ?_, LCg.Off3.of fun q hq => ?_, .inr ⟨_, .tail _ (n82 (hsub _ hm)), rfl, _, rfl⟩, ps', _, rfl, hK', fun q hq => n82 (hsub q hq), ?_, fun q hq => hne' q (strip3_mem.mp hq).1⟩
    · simp only [List.mem_cons] at hq
      rcases hq with rfl | rfl | rfl | rfl | hq
      · exact N' _ (.tail _ (hs' _ (.head _)))
      · exact N' _ (.tail _ (hs' _ (.tail _ (.head _))))
      · exact N' _ (.tail _ (hs' _ (.tail _ (.tail _ (.head _)))))
      · exact N' _ (.head _)
      · exact N' _ (.tail _ (strip3_mem.mp hq).1)
    · rcases List.mem_cons.mp hq with rfl | hq
      · exact o82
      · exact (strip3_mem.mp hq).2
    · exact hT2.weak fun c' oc vs h1 h2 _ => ⟨h1.1, strip3_mem.mpr ⟨h2, h1.2⟩⟩
  · rintro ys news ⟨ps, rest, rfl, hK, hsub, hT, hne⟩
    have e : vs.toArray.size = vs.length := by simp
    rw [e] at hK
    exact fin g ys rest ps hK hsub hT hne
end
/-- the kept part keeps the table's code -/
theorem TabOk.keepL {g h : Heap} {L : Addr} {c5 c4 c3 c2 c1 : Obj} {t8 t6 : Array Value} {n news : List (Addr × Obj)} {ps : Array Value} (N : News g L h news) (k5 : isC c5) (k4 : isC c4) (k3 : isC c3) (k2 : isC c2) (k1 : isC c1) (hs : ∀ q ∈ cellsL L c5 c4 c3 c2 c1 t8 t6 [], q ∈ news) (hn : ∀ q ∈ n, q ∈ news) (hne : ∀ q ∈ n, q.1 ≠ 82)
    (hT : TabOk 57 50 jq (fun c' => @Ne Nat c' 65) n ps) : TabOk 57 50 jq (fun c' => @Ne Nat c' 65) (keepL L news) ps := by
  refine hT.weak fun c' oc vs h1 h2 hd => ⟨h1, ?_⟩
  have z : ∀ {p : Addr × Obj}, p ∈ news → isC p.2 → @Ne Nat c' p.1 := by
    rintro p hp ⟨v, hv⟩ e
    have e1 := (N _ (hn _ h2)).1
    have e2 := (N _ hp).1
    have e' : c' = p.1 := e
    rw [e'] at e1
    have e3 : oc = p.2 := Option.some.inj (e1.symm.trans e2)
    rw [e3, hv] at hd; cases hd
  exact keepL_mem.mpr ⟨hn _ h2, z (hs _ (.head _)) k5, z (hs _ (.tail _ (.head _))) k4, z (hs _ (.tail _ (.tail _ (.head _)))) k3, z (hs _ (.tail _ (.tail _ (.tail _ (.head _))))) k2, z (hs _ (.tail _ (.tail _ (.tail _ (.tail _ (.head _)))))) k1, hne _ h2, h1⟩
end

-- part L3
section
theorem news_82 {g h : Heap} {L : Addr} {c5 c4 c3 c2 c1 : Obj} {t8 t6 : Array Value} {rest : List (Addr × Obj)} (N : News g L h (cellsL L c5 c4 c3 c2 c1 t8 t6 rest)) :
    News g L h ((82, tabObj t8) :: (L + 1 + 1 + 1 + 1 + 1, c5) :: (L + 1 + 1 + 1 + 1, c4) :: (L + 1 + 1 + 1, c3) :: (L + 1 + 1, c2) :: (L + 1, c1) :: (65, tabObj t6) :: rest) := fun q hq => N q (by
  simp only [cellsL, List.mem_cons] at hq ⊢
  rcases hq with h | h | h | h | h | h | h | h <;> simp [h])
theorem news_82b {g h : Heap} {L I C D : Addr} {oI oC oD o8 : Obj} {rest : List (Addr × Obj)} (N : News g L h ((I, oI) :: (C, oC) :: (D, oD) :: (82, o8) :: rest)) : News g L h ((82, o8) :: (I, oI) :: (C, oC) :: (D, oD) :: rest) := fun q hq => N q (by
  simp only [List.mem_cons] at hq ⊢
  rcases hq with h | h | h | h | h <;> simp [h])
theorem base_82 {L : Addr} {c5 c4 c3 c2 c1 o6 : Obj} {rest : List (Addr × Obj)} (l0 : @LT.lt Nat _ 82 L ∧ @LT.lt Nat _ 65 L) (S : LSep L rest) : ∀ q ∈ (L + 1 + 1 + 1 + 1 + 1, c5) :: (L + 1 + 1 + 1 + 1, c4) :: (L + 1 + 1 + 1, c3) :: (L + 1 + 1, c2) :: (L + 1, c1) :: (65, o6) :: rest, q.1 ≠ 82 := by
  intro q hq
  simp only [List.mem_cons] at hq
  rcases hq with rfl | rfl | rfl | rfl | rfl | rfl | hq <;> first | exact S.r82 q hq | (have := l0.1; show @Ne Nat _ _; dsimp only; omega) | decide
theorem base_cells {L : Addr} {c5 c4 c3 c2 c1 : Obj} {ps t6 : Array Value} {rest rest1 : List (Addr × Obj)} {p : Addr × Obj} (h : ∀ q ∈ (L + 1 + 1 + 1 + 1 + 1, c5) :: (L + 1 + 1 + 1 + 1, c4) :: (L + 1 + 1 + 1, c3) :: (L + 1 + 1, c2) :: (L + 1, c1) :: (65, tabObj t6) :: rest, q ∈ rest1) :
    ∀ q ∈ cellsL L c5 c4 c3 c2 c1 ps t6 [], q ∈ p :: (82, tabObj ps) :: rest1 := by
  intro q hq
  simp only [cellsL, List.mem_cons, List.not_mem_nil, or_false] at hq
  rcases hq with rfl | rfl | rfl | rfl | rfl | rfl | rfl
  · exact .tail _ (.tail _ (h _ (.head _)))
  · exact .tail _ (.tail _ (h _ (.tail _ (.head _))))
  · exact .tail _ (.tail _ (h _ (.tail _ (.tail _ (.head _)))))
  · exact .tail _ (.tail _ (h _ (.tail _ (.tail _ (.tail _ (.head _))))))
  · exact .tail _ (.tail _ (h _ (.tail _ (.tail _ (.tail _ (.tail _ (.head _)))))))
  · exact .tail _ (.head _)
  · exact .tail _ (.tail _ (h _ (.tail _ (.tail _ (.tail _ (.tail _ (.tail _ (.head _))))))))
set_option maxHeartbeats 1000000 in
theorem st_ahead (w : World) (p : Program) (loose : List Str) (mean : ExcName → Option Value) (mg mb : Str → Option Value) (g₀ : Heap) (L fa : Addr) (cd : Value) (m : Str → Option Value) (rest : List (Addr × Obj)) (c5 c4 c3 c2 c1 : Obj) (t8 t6 : Array Value) (s : Shared) (Q : Flow → Shared → Prop)
    (X : (hd.heap_39 w.params).In g₀) (K : Below callerA g₀ [] g₀) (T : Top p loose mean mg mb g₀) (l0 : @LT.lt Nat _ 82 L ∧ @LT.lt Nat _ 65 L) (C8 : CodeHd g₀ 86 82) (C6 : CodeHd g₀ 69 65)
    (F : Fr g₀ L s.heap m) (N : News g₀ L s.heap (cellsL L c5 c4 c3 c2 c1 t8 t6 rest)) (S : LSep L rest) (k5 : isC c5) (k4 : isC c4) (k3 : isC c3) (k2 : isC c2) (k1 : isC c1)
    (z : Nat) (hz : z < 4) (rm rp rl rr : Addr) (f g : Nat) (X1 Y1 : List Nat) (ysm : List Value) (hm : m "middles" = some (.ref rm)) (hM : (rm, LCg.lst ysm) ∈ rest) (hMs : RowsIn rest ysm (rowsOf z)) (e1 : c1.data = .cell (some (.ref rp))) (hP : PairAt rest rp f g)
    (e2 : c2.data = .cell (some (.ref rl))) (hX : RowAt rest rl X1) (hXl : X1.length ≤ 3) (hXb : ∀ b ∈ X1, b < 2) (e3 : c3.data = .cell (some (.ref rr))) (hY : RowAt rest rr Y1) (hYl : Y1.length ≤ 3) (hYb : ∀ b ∈ Y1, b < 2) (hT : TabOk 57 50 jq (fun c' => @Ne Nat c' 65) rest t8) (p1 p2 p3 p4 p5 p6 p7 p8 p9 pa : Pos)
    (next : ∀ r l h tk c4' t8' rest', l.map (·.1) = (rowsOf z).map (fun Z => rowText f g (X1 ++ Z)) → Fr g₀ L h m → News g₀ L h (cellsL L c5 c4' c3 c2 c1 t8' t6 rest') → LSep L rest' → (∀ q ∈ rest, q ∈ rest') → c4'.data = .cell (some (.ref r)) → (r, LCg.lst (strValues l)) ∈ rest' → TabOk 57 50 jq (fun c' => @Ne Nat c' 65) rest' t8' → Q .next { s with heap := h, toks := tk }) :
    wpAny (model prg w) (lawA L fa cd) (PySem.exec (.Assign [.Name "ahead" p1] (.ListComp (.Call (.Name "_law_written" p2) [.Name "both" p3, .Name "left" p4, .Name "middle" p5] [] p6) [⟨.Name "middle" p7, .Name "middles" p8, [], 0⟩] { kind := .function, names := [(".0", .local), ("middle", .local), ("_law_written", .globalImplicit), ("both", .free), ("left", .free)], isGenerator := false, isCoroutine := false } p9) pa) (lawEnv L fa cd)) Q (fun _ _ => False) s := by
  w_top off
  have : (PySem.Challenge.rw_re0071_01, hd.heap_39) = (PySem.Challenge.rw_re0071_01, hd.heap_39) := by
    k_fill
    rfl
  clear this
  rw [map_one hm] at F
  have hlz : ysm.length ≤ 8 := by rw [hMs.len, rows_len]; have : z = 0 ∨ z = 1 ∨ z = 2 ∨ z = 3 := by omega
                                  rcases this with rfl | rfl | rfl | rfl <;> decide
  have hlz2 : ysm.length = 2 ^ z := by rw [hMs.len, rows_len]
  refine Classical.byContradiction fun hgo9 => ?_
  obtain ⟨r5, r4, r3, r2, r1, r82, r65⟩ := id S
  refine hgo9 ?_
  clear hgo9
  (repeat' ((fail_if_success first | (with_reducible show wpAny _ _ (PySem.eval (PySem.Expr.ListComp _ _ _ _) _) _ _ _) | (with_reducible show wpAny _ _ (subscriptTail _ _ (Value.ref _) (Value.int _ _)) _ _ _) | (with_reducible show wpAny _ _ (call (Value.ref _) _) _ _ _) | (with_reducible show LCg.CompSrc _ _ _ _ _ _ _ _ _ _ _ _ _ _) | (with_reducible show TabEnd _ _ _ _ _ _ _ _ _ _ _ _ _ _) | (with_reducible show LCg.CompEnd _ _ _ _ _ _ _ _ _ _ _ _ _ _) | (with_reducible show LCg.FinE _ _ _ _ _ _ _)); first | (k_unfold; (try dsimp only)) | walk1 | (dsimp only; walk1)))
  refine LCg.ListComp_U (F₀ := by k_asm) (by with_unfolding_all rfl) (by decide) (by rfl) (by decide) (by rfl) ?_
  (repeat' ((fail_if_success first | (with_reducible show wpAny _ _ (PySem.eval (PySem.Expr.ListComp _ _ _ _) _) _ _ _) | (with_reducible show wpAny _ _ (subscriptTail _ _ (Value.ref _) (Value.int _ _)) _ _ _) | (with_reducible show wpAny _ _ (call (Value.ref _) _) _ _ _) | (with_reducible show LCg.CompSrc _ _ _ _ _ _ _ _ _ _ _ _ _ _) | (with_reducible show TabEnd _ _ _ _ _ _ _ _ _ _ _ _ _ _) | (with_reducible show LCg.CompEnd _ _ _ _ _ _ _ _ _ _ _ _ _ _) | (with_reducible show LCg.FinE _ _ _ _ _ _ _)); first | (k_unfold; (try dsimp only)) | walk1 | (dsimp only; walk1)))
  refine CompSrc.inv_tab (ps0 := t8) (vs := ysm) (e := ysm.length) (base := (L + 1 + 1 + 1 + 1 + 1, c5) :: (L + 1 + 1 + 1 + 1, c4) :: (L + 1 + 1 + 1, c3) :: (L + 1 + 1, c2) :: (L + 1, c1) :: (65, tabObj t6) :: rest)
    (fun i ys => ∃ l : List (Str × Tok), ys = strValues l ∧ l.map (·.1) = ((List.range i).map (bitsOf z)).map (fun Z => rowText f g (X1 ++ Z))) rfl (by k_asm) (news_82 N) (.tail _ (.tail _ (.tail _ (.tail _ (.tail _ (.tail _ hM)))))) (by omega) ⟨[], rfl, rfl⟩ (hT.mono fun q hq => .tail _ (.tail _ (.tail _ (.tail _ (.tail _ (.tail _ hq)))))) (base_82 l0 S) ?_ ?_
  · intro i ys rest1 ps v I oI C oC D m₂ h tk E' hi hK hsub hT1 hne hv hC hx F3 N3 off n1 n2 n3 n4 n5 n6
    refine Classical.byContradiction fun hgo9 => ?_
    obtain ⟨a1, row, rfl, hrow, hra⟩ := hMs.at hv
    refine hgo9 ?_
    clear hgo9
    have hrow2 : row = bitsOf z i := by
      have : (rowsOf z)[i]? = some (bitsOf z i) := by unfold rowsOf; rw [List.getElem?_map, List.getElem?_range (by omega)]; rfl
      rw [this] at hrow; exact (Option.some.inj hrow).symm
    subst hrow2
    obtain ⟨l, rfl, hl⟩ := hK
    have hs7 : ∀ q ∈ rest, q ∈ rest1 := fun q hq => hsub q (.tail _ (.tail _ (.tail _ (.tail _ (.tail _ (.tail _ hq))))))
    have N3' := news_cons (news_cons N3 (.tail _ (.tail _ (.tail _ (.tail _ (hsub _ (.tail _ (.tail _ (.tail _ (.tail _ (.head _))))))))))) (.tail _ (.tail _ (.tail _ (.tail _ (.tail _ (hsub _ (.tail _ (.tail _ (.tail _ (.head _))))))))))
    (repeat' ((fail_if_success first | (with_reducible show wpAny _ _ (PySem.eval (PySem.Expr.ListComp _ _ _ _) _) _ _ _) | (with_reducible show wpAny _ _ (subscriptTail _ _ (Value.ref _) (Value.int _ _)) _ _ _) | (with_reducible show wpAny _ _ (call (Value.ref _) _) _ _ _) | (with_reducible show LCg.CompSrc _ _ _ _ _ _ _ _ _ _ _ _ _ _) | (with_reducible show TabEnd _ _ _ _ _ _ _ _ _ _ _ _ _ _) | (with_reducible show LCg.CompEnd _ _ _ _ _ _ _ _ _ _ _ _ _ _) | (with_reducible show LCg.FinE _ _ _ _ _ _ _)); first | (k_unfold; (try dsimp only)) | walk1 | (dsimp only; walk1)))
    refine' written_spec _ _ _ _ _ _ _ _ _ _ _ _ _ _ _ _ _ _ _ _ ((I, oI) :: (C, oC) :: (D, LCg.lst (strValues l)) :: rest1) _ rp rl a1 f g X1 (bitsOf z i) ps (fun c' => @Ne Nat c' 65 ∧ @Ne Nat c' I ∧ @Ne Nat c' C ∧ @Ne Nat c' D) _ _ ?B ?F ?X ?N ?T C8 ?hk ?hP ?hX ?hY ?hXl ?hYl ?hXb ?hYb ?hT ?hGd ?hne ?hd ?hu ?hr
    case B => k_asm
    case F => k_asm
    case X => k_asm
    case T => k_asm
    case N => exact news_82b N3
    case hk => exact rfl
    case hP => exact hP.mono fun q hq => .tail _ (.tail _ (.tail _ (hs7 q hq)))
    case hX => exact RowAt.mono (fun q hq => .tail _ (.tail _ (.tail _ (hs7 q hq)))) hX
    case hY => exact RowAt.mono (fun q hq => .tail _ (.tail _ (.tail _ (hs7 q hq)))) hra
    case hXl => exact hXl
    case hYl => rw [bits_len]; omega
    case hXb => exact hXb
    case hYb => exact bits_lt
    case hT => exact hT1.mono fun q hq => .tail _ (.tail _ (.tail _ hq))
    case hGd => exact fun c' hc => ⟨Nat.ne_of_gt (hc _ (.tail _ (.tail _ (.tail _ (hsub _ (.tail _ (.tail _ (.tail _ (.tail _ (.tail _ (.head _))))))))))), Nat.ne_of_gt (hc _ (.head _)), Nat.ne_of_gt (hc _ (.tail _ (.head _))), Nat.ne_of_gt (hc _ (.tail _ (.tail _ (.head _))))⟩
    case hne =>
      intro q hq
      simp only [List.mem_cons] at hq
      rcases hq with rfl | rfl | rfl | hq
      · exact n4
      · exact n5
      · exact n6
      · exact hne q hq
    case hd => ktr_room
    case hu => ktr_units
    intro tk4 h4 tk4' ps4 news4 F4 N4 sub4 hT4 hne4 hnw4
    refine ⟨h4, _, ps4, news4, rfl, F4, N4, sub4, hT4, hne4, hnw4, l ++ [(_, _)], strValues_snoc _ _ _, ?_⟩
    rw [List.map_append, hl, List.range_succ, List.map_append, List.map_append]
    rfl
  · intro g1 ys rest1 ps hK hsub hT1 hne
    intro D h1 tk1 F1 N1 o1
    obtain ⟨l, rfl, hl⟩ := hK
    rw [hlz2] at hl
    have hl' : l.map (·.1) = (rowsOf z).map (fun Z => rowText f g (X1 ++ Z)) := hl
    have hs : ∀ q ∈ cellsL L c5 c4 c3 c2 c1 ps t6 [], q ∈ (D, LCg.lst (strValues l)) :: (82, tabObj ps) :: rest1 := base_cells hsub
    have hs7 : ∀ q ∈ rest, q ∈ (D, LCg.lst (strValues l)) :: (82, tabObj ps) :: rest1 := fun q hq => .tail _ (.tail _ (hsub q (.tail _ (.tail _ (.tail _ (.tail _ (.tail _ (.tail _ hq))))))))
    have N9 := resplit N1 hs
    have S9 := keepL_sep L ((D, LCg.lst (strValues l)) :: (82, tabObj ps) :: rest1)
    have sub9 := keepL_sub S hs7
    have hD9 := keepL_seq (q := (D, LCg.lst (strValues l))) N1 k5 k4 k3 k2 k1 hs (.head _) ⟨_, _, rfl⟩
    have hT9 := TabOk.keepL N1 k5 k4 k3 k2 k1 hs (fun q hq => .tail _ (.tail _ hq)) hne hT1
    clear N1 hs hs7 hsub hT1 hne
    generalize keepL L ((D, LCg.lst (strValues l)) :: (82, tabObj ps) :: rest1) = rest' at *
    (repeat' ((fail_if_success first | (with_reducible show wpAny _ _ (PySem.eval (PySem.Expr.ListComp _ _ _ _) _) _ _ _) | (with_reducible show wpAny _ _ (subscriptTail _ _ (Value.ref _) (Value.int _ _)) _ _ _) | (with_reducible show wpAny _ _ (call (Value.ref _) _) _ _ _) | (with_reducible show LCg.CompSrc _ _ _ _ _ _ _ _ _ _ _ _ _ _) | (with_reducible show TabEnd _ _ _ _ _ _ _ _ _ _ _ _ _ _) | (with_reducible show LCg.CompEnd _ _ _ _ _ _ _ _ _ _ _ _ _ _) | (with_reducible show LCg.FinE _ _ _ _ _ _ _)); first | (k_unfold; (try dsimp only)) | walk1 | (dsimp only; walk1)))
    refine store_ahead l0 S9 k4 F1 N9 fun h9 cn F9 N10 d9 => ?_
    exact next D l h9 _ cn ps rest' hl' (by rw [map_one hm]; exact F9) N10 S9 sub9 d9 hD9 hT9
set_option maxHeartbeats 1000000 in
theorem st_after (w : World) (p : Program) (loose : List Str) (mean : ExcName → Option Value) (mg mb : Str → Option Value) (g₀ : Heap) (L fa : Addr) (cd : Value) (m : Str → Option Value) (rest : List (Addr × Obj)) (c5 c4 c3 c2 c1 : Obj) (t8 t6 : Array Value) (s : Shared) (Q : Flow → Shared → Prop)
    (X : (hd.heap_39 w.params).In g₀) (K : Below callerA g₀ [] g₀) (T : Top p loose mean mg mb g₀) (l0 : @LT.lt Nat _ 82 L ∧ @LT.lt Nat _ 65 L) (C8 : CodeHd g₀ 86 82) (C6 : CodeHd g₀ 69 65)
    (F : Fr g₀ L s.heap m) (N : News g₀ L s.heap (cellsL L c5 c4 c3 c2 c1 t8 t6 rest)) (S : LSep L rest) (k5 : isC c5) (k4 : isC c4) (k3 : isC c3) (k2 : isC c2) (k1 : isC c1)
    (z : Nat) (hz : z < 4) (rm rp rl rr : Addr) (f g : Nat) (X1 Y1 : List Nat) (ysm : List Value) (hm : m "middles" = some (.ref rm)) (hM : (rm, LCg.lst ysm) ∈ rest) (hMs : RowsIn rest ysm (rowsOf z)) (e1 : c1.data = .cell (some (.ref rp))) (hP : PairAt rest rp f g)
    (e2 : c2.data = .cell (some (.ref rl))) (hX : RowAt rest rl X1) (hXl : X1.length ≤ 3) (hXb : ∀ b ∈ X1, b < 2) (e3 : c3.data = .cell (some (.ref rr))) (hY : RowAt rest rr Y1) (hYl : Y1.length ≤ 3) (hYb : ∀ b ∈ Y1, b < 2) (hT : TabOk 57 50 jq (fun c' => @Ne Nat c' 65) rest t8) (p1 p2 p3 p4 p5 p6 p7 p8 p9 pa : Pos)
    (next : ∀ r l h tk c5' t8' rest', l.map (·.1) = (rowsOf z).map (fun Z => rowText f g (Z ++ Y1)) → Fr g₀ L h m → News g₀ L h (cellsL L c5' c4 c3 c2 c1 t8' t6 rest') → LSep L rest' → (∀ q ∈ rest, q ∈ rest') → c5'.data = .cell (some (.ref r)) → (r, LCg.lst (strValues l)) ∈ rest' → TabOk 57 50 jq (fun c' => @Ne Nat c' 65) rest' t8' → Q .next { s with heap := h, toks := tk }) :
    wpAny (model prg w) (lawA L fa cd) (PySem.exec (.Assign [.Name "after" p1] (.ListComp (.Call (.Name "_law_written" p2) [.Name "both" p3, .Name "middle" p4, .Name "right" p5] [] p6) [⟨.Name "middle" p7, .Name "middles" p8, [], 0⟩] { kind := .function, names := [(".0", .local), ("middle", .local), ("_law_written", .globalImplicit), ("both", .free), ("right", .free)], isGenerator := false, isCoroutine := false } p9) pa) (lawEnv L fa cd)) Q (fun _ _ => False) s := by
  have : (PySem.Challenge.rw_re0071_01, hd.heap_39) = (PySem.Challenge.rw_re0071_01, hd.heap_39) := by
    k_fill
    rfl
  clear this
  rw [map_one hm] at F
  have hlz : ysm.length ≤ 8 := by rw [hMs.len, rows_len]; have : z = 0 ∨ z = 1 ∨ z = 2 ∨ z = 3 := by omega
                                  rcases this with rfl | rfl | rfl | rfl <;> decide
  have hlz2 : ysm.length = 2 ^ z := by rw [hMs.len, rows_len]
  refine Classical.byContradiction fun hgo9 => ?_
  obtain ⟨r5, r4, r3, r2, r1, r82, r65⟩ := id S
  refine hgo9 ?_
  clear hgo9
  (repeat' ((fail_if_success first | (with_reducible show wpAny _ _ (PySem.eval (PySem.Expr.ListComp _ _ _ _) _) _ _ _) | (with_reducible show wpAny _ _ (subscriptTail _ _ (Value.ref _) (Value.int _ _)) _ _ _) | (with_reducible show wpAny _ _ (call (Value.ref _) _) _ _ _) | (with_reducible show LCg.CompSrc _ _ _ _ _ _ _ _ _ _ _ _ _ _) | (with_reducible show TabEnd _ _ _ _ _ _ _ _ _ _ _ _ _ _) | (with_reducible show LCg.CompEnd _ _ _ _ _ _ _ _ _ _ _ _ _ _) | (with_reducible show LCg.FinE _ _ _ _ _ _ _)); first | (k_unfold; (try dsimp only)) | walk1 | (dsimp only; walk1)))
  refine LCg.ListComp_U (F₀ := by k_asm) (by with_unfolding_all rfl) (by decide) (by rfl) (by decide) (by rfl) ?_
  (repeat' ((fail_if_success first | (with_reducible show wpAny _ _ (PySem.eval (PySem.Expr.ListComp _ _ _ _) _) _ _ _) | (with_reducible show wpAny _ _ (subscriptTail _ _ (Value.ref _) (Value.int _ _)) _ _ _) | (with_reducible show wpAny _ _ (call (Value.ref _) _) _ _ _) | (with_reducible show LCg.CompSrc _ _ _ _ _ _ _ _ _ _ _ _ _ _) | (with_reducible show TabEnd _ _ _ _ _ _ _ _ _ _ _ _ _ _) | (with_reducible show LCg.CompEnd _ _ _ _ _ _ _ _ _ _ _ _ _ _) | (with_reducible show LCg.FinE _ _ _ _ _ _ _)); first | (k_unfold; (try dsimp only)) | walk1 | (dsimp only; walk1)))
  refine CompSrc.inv_tab (ps0 := t8) (vs := ysm) (e := ysm.length) (base := (L + 1 + 1 + 1 + 1 + 1, c5) :: (L + 1 + 1 + 1 + 1, c4) :: (L + 1 + 1 + 1, c3) :: (L + 1 + 1, c2) :: (L + 1, c1) :: (65, tabObj t6) :: rest)
    (fun i ys => ∃ l : List (Str × Tok), ys = strValues l ∧ l.map (·.1) = ((List.range i).map (bitsOf z)).map (fun Z => rowText f g (Z ++ Y1))) rfl (by k_asm) (news_82 N) (.tail _ (.tail _ (.tail _ (.tail _ (.tail _ (.tail _ hM)))))) (by omega) ⟨[], rfl, rfl⟩ (hT.mono fun q hq => .tail _ (.tail _ (.tail _ (.tail _ (.tail _ (.tail _ hq)))))) (base_82 l0 S) ?_ ?_
  · intro i ys rest1 ps v I oI C oC D m₂ h tk E' hi hK hsub hT1 hne hv hC hx F3 N3 off n1 n2 n3 n4 n5 n6
    refine Classical.byContradiction fun hgo9 => ?_
    obtain ⟨a1, row, rfl, hrow, hra⟩ := hMs.at hv
    refine hgo9 ?_
    clear hgo9
    have hrow2 : row = bitsOf z i := by
      have : (rowsOf z)[i]? = some (bitsOf z i) := by unfold rowsOf; rw [List.getElem?_map, List.getElem?_range (by omega)]; rfl
      rw [this] at hrow; exact (Option.some.inj hrow).symm
    subst hrow2
    obtain ⟨l, rfl, hl⟩ := hK
    have hs7 : ∀ q ∈ rest, q ∈ rest1 := fun q hq => hsub q (.tail _ (.tail _ (.tail _ (.tail _ (.tail _ (.tail _ hq))))))
    have N3' := news_cons (news_cons N3 (.tail _ (.tail _ (.tail _ (.tail _ (hsub _ (.tail _ (.tail _ (.tail _ (.tail _ (.head _))))))))))) (.tail _ (.tail _ (.tail _ (.tail _ (.tail _ (hsub _ (.tail _ (.tail _ (.head _)))))))))
    (repeat' ((fail_if_success first | (with_reducible show wpAny _ _ (PySem.eval (PySem.Expr.ListComp _ _ _ _) _) _ _ _) | (with_reducible show wpAny _ _ (subscriptTail _ _ (Value.ref _) (Value.int _ _)) _ _ _) | (with_reducible show wpAny _ _ (call (Value.ref _) _) _ _ _) | (with_reducible show LCg.CompSrc _ _ _ _ _ _ _ _ _ _ _ _ _ _) | (with_reducible show TabEnd _ _ _ _ _ _ _ _ _ _ _ _ _ _) | (with_reducible show LCg.CompEnd _ _ _ _ _ _ _ _ _ _ _ _ _ _) | (with_reducible show LCg.FinE _ _ _ _ _ _ _)); first | (k_unfold; (try dsimp only)) | walk1 | (dsimp only; walk1)))
    refine' written_spec _ _ _ _ _ _ _ _ _ _ _ _ _ _ _ _ _ _ _ _ ((I, oI) :: (C, oC) :: (D, LCg.lst (strValues l)) :: rest1) _ rp a1 rr f g (bitsOf z i) Y1 ps (fun c' => @Ne Nat c' 65 ∧ @Ne Nat c' I ∧ @Ne Nat c' C ∧ @Ne Nat c' D) _ _ ?B ?F ?X ?N ?T C8 ?hk ?hP ?hX ?hY ?hXl ?hYl ?hXb ?hYb ?hT ?hGd ?hne ?hd ?hu ?hr
    case B => k_asm
    case F => k_asm
    case X => k_asm
    case T => k_asm
    case N => exact news_82b N3
    case hk => exact rfl
    case hP => exact hP.mono fun q hq => .tail _ (.tail _ (.tail _ (hs7 q hq)))
    case hX => exact RowAt.mono (fun q hq => .tail _ (.tail _ (.tail _ (hs7 q hq)))) hra
    case hY => exact RowAt.mono (fun q hq => .tail _ (.tail _ (.tail _ (hs7 q hq)))) hY
    case hXl => rw [bits_len]; omega
    case hYl => exact hYl
    case hXb => exact bits_lt
    case hYb => exact hYb
    case hT => exact hT1.mono fun q hq => .tail _ (.tail _ (.tail _ hq))
    case hGd => exact fun c' hc => ⟨Nat.ne_of_gt (hc _ (.tail _ (.tail _ (.tail _ (hsub _ (.tail _ (.tail _ (.tail _ (.tail _ (.tail _ (.head _))))))))))), Nat.ne_of_gt (hc _ (.head _)), Nat.ne_of_gt (hc _ (.tail _ (.head _))), Nat.ne_of_gt (hc _ (.tail _ (.tail _ (.head _))))⟩
    case hne =>
      intro q hq
      simp only [List.mem_cons] at hq
      rcases hq with rfl | rfl | rfl | hq
      · exact n4
      · exact n5
      · exact n6
      · exact hne q hq
    case hd => ktr_room
    case hu => ktr_units
    intro tk4 h4 tk4' ps4 news4 F4 N4 sub4 hT4 hne4 hnw4
    refine ⟨h4, _, ps4, news4, rfl, F4, N4, sub4, hT4, hne4, hnw4, l ++ [(_, _)], strValues_snoc _ _ _, ?_⟩
    rw [List.map_append, hl, List.range_succ, List.map_append, List.map_append]
    rfl
  · intro g1 ys rest1 ps hK hsub hT1 hne
    intro D h1 tk1 F1 N1 o1
    obtain ⟨l, rfl, hl⟩ := hK
    rw [hlz2] at hl
    have hl' : l.map (·.1) = (rowsOf z).map (fun Z => rowText f g (Z ++ Y1)) := hl
    have hs : ∀ q ∈ cellsL L c5 c4 c3 c2 c1 ps t6 [], q ∈ (D, LCg.lst (strValues l)) :: (82, tabObj ps) :: rest1 := base_cells hsub
    have hs7 : ∀ q ∈ rest, q ∈ (D, LCg.lst (strValues l)) :: (82, tabObj ps) :: rest1 := fun q hq => .tail _ (.tail _ (hsub q (.tail _ (.tail _ (.tail _ (.tail _ (.tail _ (.tail _ hq))))))))
    have N9 := resplit N1 hs
    have S9 := keepL_sep L ((D, LCg.lst (strValues l)) :: (82, tabObj ps) :: rest1)
    have sub9 := keepL_sub S hs7
    have hD9 := keepL_seq (q := (D, LCg.lst (strValues l))) N1 k5 k4 k3 k2 k1 hs (.head _) ⟨_, _, rfl⟩
    have hT9 := TabOk.keepL N1 k5 k4 k3 k2 k1 hs (fun q hq => .tail _ (.tail _ hq)) hne hT1
    clear N1 hs hs7 hsub hT1 hne
    generalize keepL L ((D, LCg.lst (strValues l)) :: (82, tabObj ps) :: rest1) = rest' at *
    (repeat' ((fail_if_success first | (with_reducible show wpAny _ _ (PySem.eval (PySem.Expr.ListComp _ _ _ _) _) _ _ _) | (with_reducible show wpAny _ _ (subscriptTail _ _ (Value.ref _) (Value.int _ _)) _ _ _) | (with_reducible show wpAny _ _ (call (Value.ref _) _) _ _ _) | (with_reducible show LCg.CompSrc _ _ _ _ _ _ _ _ _ _ _ _ _ _) | (with_reducible show TabEnd _ _ _ _ _ _ _ _ _ _ _ _ _ _) | (with_reducible show LCg.CompEnd _ _ _ _ _ _ _ _ _ _ _ _ _ _) | (with_reducible show LCg.FinE _ _ _ _ _ _ _)); first | (k_unfold; (try dsimp only)) | walk1 | (dsimp only; walk1)))
    refine store_after l0 S9 k5 F1 N9 fun h9 cn F9 N10 d9 => ?_
    exact next D l h9 _ cn ps rest' hl' (by rw [map_one hm]; exact F9) N10 S9 sub9 d9 hD9 hT9
end

-- part L4
section
theorem str_at {l : List (Str × Tok)} {xs : List Str} {i : Nat} {x : Str} (h : l.map (·.1) = xs) (hx : xs[i]? = some x) : ∃ t, (strValues l)[i]? = some (.str x t) := by
  subst h
  rw [List.getElem?_map] at hx
  obtain ⟨p, hp, rfl⟩ : ∃ p, l[i]? = some p ∧ p.1 = x := by simpa using hx
  exact ⟨p.2, by simp [strValues, hp]⟩
theorem rows_at {z i : Nat} (h : i < 2 ^ z) : (rowsOf z)[i]? = some (bitsOf z i) := by unfold rowsOf; rw [List.getElem?_map, List.getElem?_range h]; rfl
set_option maxHeartbeats 1000000 in
theorem st_alike (w : World) (p : Program) (loose : List Str) (mean : ExcName → Option Value) (mg mb : Str → Option Value) (g₀ : Heap) (L fa : Addr) (cd : Value) (m : Str → Option Value) (rest : List (Addr × Obj)) (c5 c4 c3 c2 c1 : Obj) (t8 t6 : Array Value) (s : Shared) (Q : Flow → Shared → Prop)
    (X : (hd.heap_39 w.params).In g₀) (K : Below callerA g₀ [] g₀) (T : Top p loose mean mg mb g₀) (l0 : @LT.lt Nat _ 82 L ∧ @LT.lt Nat _ 65 L) (C8 : CodeHd g₀ 86 82) (C6 : CodeHd g₀ 69 65)
    (F : Fr g₀ L s.heap m) (N : News g₀ L s.heap (cellsL L c5 c4 c3 c2 c1 t8 t6 rest)) (S : LSep L rest) (k5 : isC c5) (k4 : isC c4) (k3 : isC c3) (k2 : isC c2) (k1 : isC c1)
    (z : Nat) (hz : z < 4) (rm ra rb : Addr) (f g : Nat) (hf : f < 6) (hg : g < 6) (hfg : f ≠ g) (X1 Y1 : List Nat) (ysm : List Value) (hm : m "middles" = some (.ref rm)) (hM : (rm, LCg.lst ysm) ∈ rest) (hMl : ysm.length = 2 ^ z) (la lb : List (Str × Tok))
    (e4 : c4.data = .cell (some (.ref ra))) (hA : (ra, LCg.lst (strValues la)) ∈ rest) (hla : la.map (·.1) = (rowsOf z).map (fun Z => rowText f g (X1 ++ Z))) (e5 : c5.data = .cell (some (.ref rb))) (hB : (rb, LCg.lst (strValues lb)) ∈ rest) (hlb : lb.map (·.1) = (rowsOf z).map (fun Z => rowText f g (Z ++ Y1)))
    (hXb : ∀ b ∈ X1, b < 2) (hYb : ∀ b ∈ Y1, b < 2) (hXY : Y1.length = X1.length) (p1 p2 p3 p4 p5 p6 p7 p8 p9 pa pb pc pd pe pf pg ph pi pj : Pos)
    (hsw : swapsWith (.ListComp (.Compare (.Call (.Name "eq" p2) [.Subscript (.Name "ahead" p3) (.Name "number" p4) p5, .Subscript (.Name "after" p6) (.Name "number" p7) p8] [] p9) [.Is] [.Constant (.bool true) 0 pa] pb) [⟨.Name "number" pc, .Call (.Name "range" pd) [.Call (.Name "len" pe) [.Name "middles" pf] [] pg] [] ph, [], 0⟩] { kind := .function, names := [(".0", .local), ("number", .local), ("eq", .globalImplicit), ("after", .free), ("ahead", .free)], isGenerator := false, isCoroutine := false } pi) (some (.Name "alike" p1)) pj.line (lawEnv L fa cd) = pure true)
    (next : ∀ r h tk rest', Fr g₀ L h (fun y => if y = Str.ofString "alike" then some (.ref r) else m y) → News g₀ L h (cellsL L c5 c4 c3 c2 c1 t8 t6 rest') → LSep L rest' → (∀ q ∈ rest, q ∈ rest') → (r, LCg.lst ((alikeOf X1 Y1 z).map .bool)) ∈ rest' → Q .next { s with heap := h, toks := tk }) :
    wpAny (model prg w) (lawA L fa cd) (PySem.exec (.Assign [.Name "alike" p1] (.ListComp (.Compare (.Call (.Name "eq" p2) [.Subscript (.Name "ahead" p3) (.Name "number" p4) p5, .Subscript (.Name "after" p6) (.Name "number" p7) p8] [] p9) [.Is] [.Constant (.bool true) 0 pa] pb) [⟨.Name "number" pc, .Call (.Name "range" pd) [.Call (.Name "len" pe) [.Name "middles" pf] [] pg] [] ph, [], 0⟩] { kind := .function, names := [(".0", .local), ("number", .local), ("eq", .globalImplicit), ("after", .free), ("ahead", .free)], isGenerator := false, isCoroutine := false } pi) pj) (lawEnv L fa cd)) Q (fun _ _ => False) s := by
  w_top off
  have : (PySem.Challenge.rw_re0071_01, hd.heap_39) = (PySem.Challenge.rw_re0071_01, hd.heap_39) := by
    k_fill
    rfl
  clear this
  rw [map_one hm] at F
  have hz4 : z = 0 ∨ z = 1 ∨ z = 2 ∨ z = 3 := by omega
  have hl8 : ysm.length ≤ 8 := by rw [hMl]; rcases hz4 with rfl | rfl | rfl | rfl <;> decide
  replace N := news_cons N (cells_rest _ hM)
  refine LCg.Assign_ListComp_U (F₀ := by k_asm) (by rfl) hsw (by with_unfolding_all rfl) (by decide) (by rfl) (by decide) (by rfl) (by rfl) (by rfl) ?_
  (repeat' ((fail_if_success first | (with_reducible show wpAny _ _ (PySem.eval (PySem.Expr.ListComp _ _ _ _) _) _ _ _) | (with_reducible show wpAny _ _ (subscriptTail _ _ (Value.ref _) (Value.int _ _)) _ _ _) | (with_reducible show wpAny _ _ (call (Value.ref _) _) _ _ _) | (with_reducible show LCg.CompSrc _ _ _ _ _ _ _ _ _ _ _ _ _ _) | (with_reducible show LCg.FinA _ _ _ _ _ _ _ _) | (with_reducible show PySem.wpAny _ _ (PySem.exec (PySem.Stmt.Assign _ (PySem.Expr.ListComp _ _ _ _) _) _) _ _ _) | (with_reducible show LCg.CompEnd _ _ _ _ _ _ _ _ _ _ _ _ _ _) | (with_reducible show LCg.FinE _ _ _ _ _ _ _)); first | (k_unfold; (try dsimp only)) | walk1 | (dsimp only; walk1)))
  refine Calls.call_len_list (items := ysm.toArray) ⟨_, (N _ (.head _)).1, rfl, _, rfl⟩ (by rw [List.size_toArray]; omega) ?_
  rw [List.size_toArray, hMl]
  (repeat' ((fail_if_success first | (with_reducible show wpAny _ _ (PySem.eval (PySem.Expr.ListComp _ _ _ _) _) _ _ _) | (with_reducible show wpAny _ _ (subscriptTail _ _ (Value.ref _) (Value.int _ _)) _ _ _) | (with_reducible show wpAny _ _ (call (Value.ref _) _) _ _ _) | (with_reducible show LCg.CompSrc _ _ _ _ _ _ _ _ _ _ _ _ _ _) | (with_reducible show LCg.FinA _ _ _ _ _ _ _ _) | (with_reducible show PySem.wpAny _ _ (PySem.exec (PySem.Stmt.Assign _ (PySem.Expr.ListComp _ _ _ _) _) _) _ _ _) | (with_reducible show LCg.CompEnd _ _ _ _ _ _ _ _ _ _ _ _ _ _) | (with_reducible show LCg.FinE _ _ _ _ _ _ _)); first | (k_unfold; (try dsimp only)) | walk1 | (dsimp only; walk1)))
  rename (IsRange _ _ _ _ _ _ _ _) => hr
  rename (News _ _ _ _) => N1
  rename (Fr _ _ _ _) => F1
  refine CompSrc.inv_range (2 ^ z) (fun i ys _ => ys = ((List.range i).map fun j => decide (X1 ++ bitsOf z j = bitsOf z j ++ Y1)).map .bool) rfl F1 N1 hr ?_ ?_ ?_ rfl ?_ ?_
  · rcases hz4 with rfl | rfl | rfl | rfl <;> decide
  · rcases hz4 with rfl | rfl | rfl | rfl <;> decide
  · rcases hz4 with rfl | rfl | rfl | rfl <;> decide
  · intro i ys news1 v I oI C oC D m₂ h tk E' hi hK hsub hnw hv hC hx F3 N3 off n1 n2 n3
    obtain ⟨t, rfl⟩ := hv
    subst hK
    have hz8 : 2 ^ z ≤ 8 := by rcases hz4 with rfl | rfl | rfl | rfl <;> decide
    have ei : ((0 : Int) + (i : Int)).toNat = i := by omega
    obtain ⟨tA, hA1⟩ := str_at (i := i) (x := rowText f g (X1 ++ bitsOf z i)) hla (by rw [List.getElem?_map, rows_at hi]; rfl)
    obtain ⟨tB, hB1⟩ := str_at (i := i) (x := rowText f g (bitsOf z i ++ Y1)) hlb (by rw [List.getElem?_map, rows_at hi]; rfl)
    have n4 : ∀ q ∈ rest, q ∈ news1 := fun q hq => hsub q (.tail _ (cells_rest q hq))
    have N4 := news_cons (news_cons N3 (.tail _ (.tail _ (.tail _ (hsub _ (.tail _ (.tail _ (.head _)))))))) (.tail _ (.tail _ (.tail _ (.tail _ (hsub _ (.tail _ (.head _)))))))
    (repeat' ((fail_if_success first | (with_reducible show wpAny _ _ (PySem.eval (PySem.Expr.ListComp _ _ _ _) _) _ _ _) | (with_reducible show wpAny _ _ (subscriptTail _ _ (Value.ref _) (Value.int _ _)) _ _ _) | (with_reducible show wpAny _ _ (call (Value.ref _) _) _ _ _) | (with_reducible show LCg.CompSrc _ _ _ _ _ _ _ _ _ _ _ _ _ _) | (with_reducible show LCg.FinA _ _ _ _ _ _ _ _) | (with_reducible show PySem.wpAny _ _ (PySem.exec (PySem.Stmt.Assign _ (PySem.Expr.ListComp _ _ _ _) _) _) _ _ _) | (with_reducible show LCg.CompEnd _ _ _ _ _ _ _ _ _ _ _ _ _ _) | (with_reducible show LCg.FinE _ _ _ _ _ _ _)); first | (k_unfold; (try dsimp only)) | walk1 | (dsimp only; walk1)))
    refine item_K (.str (rowText f g (X1 ++ bitsOf z i)) tA) (by k_asm) (.tail _ (.tail _ (.tail _ (.tail _ (.tail _ (n4 _ hA)))))) (by omega) (by omega) (by rw [ei]; exact hA1) ?_
    (repeat' ((fail_if_success first | (with_reducible show wpAny _ _ (PySem.eval (PySem.Expr.ListComp _ _ _ _) _) _ _ _) | (with_reducible show wpAny _ _ (subscriptTail _ _ (Value.ref _) (Value.int _ _)) _ _ _) | (with_reducible show wpAny _ _ (call (Value.ref _) _) _ _ _) | (with_reducible show LCg.CompSrc _ _ _ _ _ _ _ _ _ _ _ _ _ _) | (with_reducible show LCg.FinA _ _ _ _ _ _ _ _) | (with_reducible show PySem.wpAny _ _ (PySem.exec (PySem.Stmt.Assign _ (PySem.Expr.ListComp _ _ _ _) _) _) _ _ _) | (with_reducible show LCg.CompEnd _ _ _ _ _ _ _ _ _ _ _ _ _ _) | (with_reducible show LCg.FinE _ _ _ _ _ _ _)); first | (k_unfold; (try dsimp only)) | walk1 | (dsimp only; walk1)))
    refine item_K (.str (rowText f g (bitsOf z i ++ Y1)) tB) (by k_asm) (.tail _ (.tail _ (.tail _ (.tail _ (.tail _ (n4 _ hB)))))) (by omega) (by omega) (by rw [ei]; exact hB1) ?_
    (repeat' ((fail_if_success first | (with_reducible show wpAny _ _ (PySem.eval (PySem.Expr.ListComp _ _ _ _) _) _ _ _) | (with_reducible show wpAny _ _ (subscriptTail _ _ (Value.ref _) (Value.int _ _)) _ _ _) | (with_reducible show wpAny _ _ (call (Value.ref _) _) _ _ _) | (with_reducible show LCg.CompSrc _ _ _ _ _ _ _ _ _ _ _ _ _ _) | (with_reducible show LCg.FinA _ _ _ _ _ _ _ _) | (with_reducible show PySem.wpAny _ _ (PySem.exec (PySem.Stmt.Assign _ (PySem.Expr.ListComp _ _ _ _) _) _) _ _ _) | (with_reducible show LCg.CompEnd _ _ _ _ _ _ _ _ _ _ _ _ _ _) | (with_reducible show LCg.FinE _ _ _ _ _ _ _)); first | (k_unfold; (try dsimp only)) | walk1 | (dsimp only; walk1)))
    refine' eq_spec _ _ _ _ _ _ _ _ _ _ _ _ _ _ _ _ _ _ _ _ _ _ _ _ _ _ _ _ ?B ?F ?X ?N ?T ?hk ?hd ?hu ?hr
    case B => k_asm
    case F => k_asm
    case X => k_asm
    case N => k_asm
    case T => k_asm
    case hk => exact rfl
    case hd => ktr_room
    case hu => ktr_units
    intro h6 tk6 F6 N6
    rw [rowText_eq hf hg hfg (by intro x hx; rcases List.mem_append.mp hx with hx | hx; exact hXb x hx; exact bits_lt x hx) (by intro x hx; rcases List.mem_append.mp hx with hx | hx; exact bits_lt x hx; exact hYb x hx) (by simp only [List.length_append, bits_len]; omega)]
    (repeat' ((fail_if_success first | (with_reducible show wpAny _ _ (PySem.eval (PySem.Expr.ListComp _ _ _ _) _) _ _ _) | (with_reducible show wpAny _ _ (subscriptTail _ _ (Value.ref _) (Value.int _ _)) _ _ _) | (with_reducible show wpAny _ _ (call (Value.ref _) _) _ _ _) | (with_reducible show LCg.CompSrc _ _ _ _ _ _ _ _ _ _ _ _ _ _) | (with_reducible show LCg.FinA _ _ _ _ _ _ _ _) | (with_reducible show PySem.wpAny _ _ (PySem.exec (PySem.Stmt.Assign _ (PySem.Expr.ListComp _ _ _ _) _) _) _ _ _) | (with_reducible show LCg.CompEnd _ _ _ _ _ _ _ _ _ _ _ _ _ _) | (with_reducible show LCg.FinE _ _ _ _ _ _ _)); first | (k_unfold; (try dsimp only)) | walk1 | (dsimp only; walk1)))
    exact CompEnd.same F6 (fun q hq => N6 q (.tail _ (.tail _ hq))) off ⟨by rw [List.range_succ, List.map_append, List.map_append, beq_true]; rfl, hsub, hnw⟩
  · intro g1 ys news1 hK hsub hnw
    intro D h1 tk1 F9 N9 o1
    have eK : ys = (alikeOf X1 Y1 z).map .bool := by rw [hK]; unfold alikeOf rowsOf; rw [List.map_map (g := _) (f := bitsOf z)]; rfl
    subst eK
    clear hK
    have hs : ∀ q ∈ cellsL L c5 c4 c3 c2 c1 t8 t6 [], q ∈ (D, LCg.lst ((alikeOf X1 Y1 z).map .bool)) :: news1 := fun q hq => .tail _ (hsub q (.tail _ (cells_sub q hq)))
    have N10 := resplit N9 hs
    exact next D h1 _ _ (by rw [map_one hm]; exact F9) N10 (keepL_sep _ _) (keepL_sub S fun q hq => .tail _ (hsub q (.tail _ (cells_rest q hq)))) (keepL_seq N9 k5 k4 k3 k2 k1 hs (.head _) ⟨_, _, rfl⟩)
end

-- part Rg
section
section
variable {prog : Program} {w : World} {A : Around} {E : Value → Shared → Prop} {s : Shared} {env : Env} {h₀ : Heap} {body : List Stmt} {Q : Flow → Shared → Prop}
/-- a turn's end of a loop over a range -/
def RgEnd (h₀ : Heap) (L : Addr) (J : (Str → Option Value) → Prop) (news : List (Addr × Obj)) (I : Addr) (oI : Obj) (s₁ : Shared) (Q : Flow → Shared → Prop) (f : Flow) (s₂ : Shared) : Prop :=
  match f with
  | .ret v => Q (.ret v) s₂
  | .brk => Q .next s₂
  | _ => ∃ h' tk m', s₂ = { s₁ with heap := h', toks := tk } ∧ Fr h₀ L h' m' ∧ News h₀ L h' ((I, oI) :: news) ∧ J m'
theorem range_for {x : Str} {px : Pos} {r : Addr} {n : Nat} {t u v : Tok} {m₀ : Str → Option Value} {news : List (Addr × Obj)} (J : Nat → (Str → Option Value) → Prop)
    (hh : A.handled = none) (F : Fr h₀ env.locals s.heap m₀) (N : News h₀ env.locals s.heap news) (hr : IsRange s.heap r 0 (n : Int) 1 t u v) (hsm : Builtin.Range.small 0 (n : Int) 1 = true) (hn : Builtin.Range.rangeSize 0 (n : Int) 1 = ((n : Nat) : Int)) (hj : J 0 m₀) (hE : PassesOwn (model prog w) A env E)
    (turn : ∀ I (i : Nat) t m₁ h tk oI, i < n → J i m₁ → Fr h₀ env.locals h m₁ → News h₀ env.locals h ((I, oI) :: news) →
      wpAny (model prog w) A (assign (.Name x px) env (.int (i : Int) t)) (fun _ s₂ => wpAny (model prog w) A (execs body env) (RgEnd h₀ env.locals (J (i + 1)) news I oI { s with heap := h, toks := tk } Q) E s₂) E { s with heap := h, toks := tk })
    (done : ∀ m₁ h tk, J n m₁ → Fr h₀ env.locals h m₁ → News h₀ env.locals h news → Q .next { s with heap := h, toks := tk }) :
    wpAny (model prog w) A (pyIter (.ref r)) (fun it s₂ => codeAny (model prog w) A (.forLoop (.Name x px) it body [] env) (fun r s' => match r with | .ok f => Q f s' | .error e => cameBackBy (model prog w) A env E e s') s₂) E s := by
  refine wpAny_pyIter_range hr hsm ?_
  have F1 := F.push { cls := Value.type "range_iterator", data := Data.fields #[rawInt 0, rawInt (Range.rangeSize 0 (n : Int) 1), rawInt 1] }
  have N1 := N.push F { cls := Value.type "range_iterator", data := Data.fields #[rawInt 0, rawInt (Range.rangeSize 0 (n : Int) 1), rawInt 1] }
  have z0 : ∀ q ∈ news, q.1 < s.heap.objs.size := fun q hq => Heap.lt_size (N q hq).1
  have hst0 : IsRangeIter (s.heap.push { cls := Value.type "range_iterator", data := Data.fields #[rawInt 0, rawInt (Range.rangeSize 0 (n : Int) 1), rawInt 1] }) s.heap.objs.size (0 + ((0 : Nat) : Int) * 1) ((n : Int) - ((0 : Nat) : Int)) 1 := by
    show Heap.get? _ _ = some _
    rw [(N1 _ (.head _)).1, hn]; simp
  generalize hI : s.heap.objs.size = I at *
  generalize s.heap.push { cls := Value.type "range_iterator", data := Data.fields #[rawInt 0, rawInt (Range.rangeSize 0 (n : Int) 1), rawInt 1] } = H1 at *
  have W := LCg.range_walks (prog := prog) (w := w) (I := I) hh 0 n
  have nI := N1 _ (.head _)
  have off : ∀ q ∈ news, q.1 ≠ I := fun q hq => Nat.ne_of_lt (z0 q hq)
  refine codeAny_forLoop_any (fun kk s' => ∃ h' tk, ∃ i : Nat, ∃ m', s' = { s with heap := h', toks := tk } ∧ IsRangeIter h' I (0 + (i : Nat) * 1) ((n : Int) - (i : Nat)) 1 ∧ Fr h₀ env.locals h' m' ∧ News h₀ env.locals h' news ∧ J i m' ∧ i ≤ n ∧ kk = n + 1 - i) ?_ (n + 1)
    ⟨H1, s.toks, 0, m₀, rfl, hst0, F1, fun q hq => N1 q (.tail _ hq), hj, Nat.zero_le _, rfl⟩
  rintro kk s' ⟨h', tk, i, m', rfl, hst, F', N', hJ, hi, rfl⟩
  by_cases hlt2 : i < n
  · refine W.item i _ _ _ hlt2 hst fun v h₁ tk₁ hP st₁ hk₁ => ?_
    obtain ⟨t', rfl⟩ := hP
    have F2 := LCg.fr_but F' hk₁ nI.2.1.symm nI.2.2
    have N2 := LCg.news_but N' hk₁ off
    obtain ⟨oI, hoI⟩ : ∃ oI, h₁.get? I = some oI := ⟨_, st₁⟩
    have N3 : News h₀ env.locals h₁ ((I, oI) :: news) := by
      intro q hq
      rcases List.mem_cons.mp hq with rfl | hq
      · exact ⟨hoI, nI.2⟩
      · exact N2 q hq
    refine wpAny_of_eq (a := ()) rfl ?_
    have ei : (0 : Int) + (i : Int) = (i : Int) := Int.zero_add _
    rw [ei]
    refine wpAny_mono (wpAny_passesOwn hE (turn I i t' m' h₁ tk₁ oI hlt2 hJ F2 N3)) (fun _ s₂ hb => wpAny_mono (wpAny_passesOwn hE hb) (fun f s₃ hf => ?_) fun _ _ z => z) fun _ _ z => z
    have fin : (∃ h' tk m', s₃ = { s with heap := h', toks := tk } ∧ Fr h₀ env.locals h' m' ∧ News h₀ env.locals h' ((I, oI) :: news) ∧ J (i + 1) m') → ∃ mm, mm < n + 1 - i ∧ ∃ h' tk, ∃ i' : Nat, ∃ m', s₃ = { s with heap := h', toks := tk } ∧ IsRangeIter h' I (0 + (i' : Nat) * 1) ((n : Int) - (i' : Nat)) 1 ∧ Fr h₀ env.locals h' m' ∧ News h₀ env.locals h' news ∧ J i' m' ∧ i' ≤ n ∧ mm = n + 1 - i' := by
      rintro ⟨h₃, tk₃, m₃, rfl, F3, N4, J3⟩
      have st' : h₁.get? I = some _ := st₁
      rw [hoI] at st'
      refine ⟨n + 1 - (i + 1), by omega, h₃, tk₃, i + 1, m₃, rfl, ?_, F3, fun q hq => N4 q (.tail _ hq), J3, hlt2, rfl⟩
      show h₃.get? I = some _
      rw [(N4 _ (.head _)).1, st']
    cases f with
    | ret v => exact hf
    | brk => exact hf
    | next => exact fin hf
    | cont => exact fin hf
  · obtain rfl : i = n := Nat.le_antisymm hi (Nat.not_lt.mp hlt2)
    refine W.done _ _ _ hst fun h₁ tk₁ hk₁ => ?_
    exact wpAny_execs_nil (done m' h₁ tk₁ hJ (LCg.fr_but F' hk₁ nI.2.1.symm nI.2.2) (LCg.news_but N' hk₁ off))
end
end

-- part L5
section
theorem want_step (X : List Nat) (i : Nat) : wantOf X (i + 1) = 2 * wantOf X i + X.getD (i % X.length) 0 := by
  unfold wantOf
  rw [List.range_succ, List.foldl_append]
  rfl
theorem getD_some {X : List Nat} {k b : Nat} (h : X[k]? = some b) : X.getD k 0 = b := by rw [List.getD_eq_getElem?_getD, h]; rfl
/-- the loop that reckons the wanted place -/
def JWant (X1 : List Nat) (m : Str → Option Value) (i : Nat) (m' : Str → Option Value) : Prop := (∀ x, x ≠ Str.ofString "wanted" → x ≠ Str.ofString "number" → m' x = m x) ∧ ∃ t, m' "wanted" = some (.int ((wantOf X1 i : Nat) : Int) t)
set_option maxHeartbeats 1000000 in
theorem st_for (w : World) (p : Program) (loose : List Str) (mean : ExcName → Option Value) (mg mb : Str → Option Value) (g₀ : Heap) (L fa : Addr) (cd : Value) (m : Str → Option Value) (rest : List (Addr × Obj)) (c5 c4 c3 c2 c1 : Obj) (t8 t6 : Array Value) (s : Shared) (Q : Flow → Shared → Prop)
    (X : (hd.heap_39 w.params).In g₀) (K : Below callerA g₀ [] g₀) (T : Top p loose mean mg mb g₀) (l0 : @LT.lt Nat _ 82 L ∧ @LT.lt Nat _ 65 L) (C8 : CodeHd g₀ 86 82) (C6 : CodeHd g₀ 69 65)
    (F : Fr g₀ L s.heap m) (N : News g₀ L s.heap (cellsL L c5 c4 c3 c2 c1 t8 t6 rest)) (S : LSep L rest) (k5 : isC c5) (k4 : isC c4) (k3 : isC c3) (k2 : isC c2) (k1 : isC c1)
    (z : Nat) (tz t0 : Tok) (hz : z < 4) (hm : m "width" = some (.int (z : Int) tz)) (hm0 : m "wanted" = some (.int 0 t0)) (rl : Addr) (X1 : List Nat) (e2 : c2.data = .cell (some (.ref rl))) (hX : RowAt rest rl X1) (h1 : 1 ≤ X1.length) (h3 : X1.length ≤ 3) (hXb : ∀ b ∈ X1, b < 2) (p1 p2 p3 p4 p5 p6 p7 p8 p9 pa pb pc pd pe pf pg ph pi : Pos)
    (next : ∀ h tk m' t, (∀ x, x ≠ Str.ofString "wanted" → x ≠ Str.ofString "number" → m' x = m x) → m' "wanted" = some (.int ((wantOf X1 z : Nat) : Int) t) → Fr g₀ L h m' → News g₀ L h (cellsL L c5 c4 c3 c2 c1 t8 t6 rest) → Q .next { s with heap := h, toks := tk }) :
    wpAny (model prg w) (lawA L fa cd) (PySem.exec (.For (.Name "number" p1) (.Call (.Name "range" p2) [.Name "width" p3] [] p4) [.Assign [.Name "wanted" p5] (.BinOp (.BinOp (.Constant (.int 2) 0 p6) .Mult (.Name "wanted" p7) p8) .Add (.Subscript (.Name "left" p9) (.BinOp (.Name "number" pa) .Mod (.Call (.Name "len" pb) [.Name "left" pc] [] pd) pe) pf) pg) ph] [] pi) (lawEnv L fa cd)) Q (fun _ _ => False) s := by
  w_top off
  have : (PySem.Challenge.rw_re0071_01, hd.heap_39) = (PySem.Challenge.rw_re0071_01, hd.heap_39) := by
    k_fill
    rfl
  clear this
  have hz4 : z = 0 ∨ z = 1 ∨ z = 2 ∨ z = 3 := by omega
  refine Classical.byContradiction fun hgo9 => ?_
  obtain ⟨xs, e, hx1, hx2, hx3⟩ := hX.len
  refine hgo9 ?_
  clear hgo9
  have F0 := F
  rw [map_one hm] at F
  clear F0
  refine wpAny_For ?_
  (repeat' ((fail_if_success first | (with_reducible show wpAny _ _ (PySem.eval (PySem.Expr.ListComp _ _ _ _) _) _ _ _) | (with_reducible show wpAny _ _ (subscriptTail _ _ (Value.ref _) (Value.int _ _)) _ _ _) | (with_reducible show wpAny _ _ (call (Value.ref _) _) _ _ _) | (with_reducible show LCg.CompSrc _ _ _ _ _ _ _ _ _ _ _ _ _ _) | (with_reducible show LCg.FinA _ _ _ _ _ _ _ _) | (with_reducible show RgEnd _ _ _ _ _ _ _ _ _ _) | (with_reducible show wpAny _ _ (call (Value.builtin "len") _) _ _ _) | (with_reducible show wpAny _ _ (PySem.pyIter _) _ _ _) | (with_reducible show wpAny _ _ (PySem.compareOp _ (Value.ref _) (Value.ref _)) _ _ _) | (with_reducible show LCg.CompEnd _ _ _ _ _ _ _ _ _ _ _ _ _ _) | (with_reducible show LCg.FinE _ _ _ _ _ _ _)); first | (k_unfold; (try dsimp only)) | walk1 | (dsimp only; walk1)))
  rename (IsRange _ _ _ _ _ _ _ _) => hr
  rename (News _ _ _ _) => N1
  rename (Fr _ _ _ _) => F1
  rw [← map_one hm] at F1
  refine range_for (n := z) (JWant X1 m) rfl F1 N1 hr ?_ ?_ ⟨fun _ _ _ => rfl, t0, hm0⟩ (by passes_own) ?_ ?_
  · rcases hz4 with rfl | rfl | rfl | rfl <;> decide
  · rcases hz4 with rfl | rfl | rfl | rfl <;> decide
  · intro I i t m₁ h tk oI hi hJ F₁ N₁
    obtain ⟨hJ1, tw, hJ2⟩ := hJ
    have hw : wantOf X1 i < 2 ^ i := want_lt (by omega) h1 h3 hXb
    have hw8 : 2 ^ i ≤ 8 := by
      have : i = 0 ∨ i = 1 ∨ i = 2 ∨ i = 3 := by omega
      rcases this with rfl | rfl | rfl | rfl <;> decide
    have hws := want_step X1 i
    generalize wantOf X1 i = W at *
    rw [map_one hJ2] at F₁
    replace N₁ := news_cons N₁ (.tail _ (.tail _ (.tail _ (.tail _ (.head _)))))
    (repeat' ((fail_if_success first | (with_reducible show wpAny _ _ (PySem.eval (PySem.Expr.ListComp _ _ _ _) _) _ _ _) | (with_reducible show wpAny _ _ (subscriptTail _ _ (Value.ref _) (Value.int _ _)) _ _ _) | (with_reducible show wpAny _ _ (call (Value.ref _) _) _ _ _) | (with_reducible show LCg.CompSrc _ _ _ _ _ _ _ _ _ _ _ _ _ _) | (with_reducible show LCg.FinA _ _ _ _ _ _ _ _) | (with_reducible show RgEnd _ _ _ _ _ _ _ _ _ _) | (with_reducible show wpAny _ _ (call (Value.builtin "len") _) _ _ _) | (with_reducible show wpAny _ _ (PySem.pyIter _) _ _ _) | (with_reducible show wpAny _ _ (PySem.compareOp _ (Value.ref _) (Value.ref _)) _ _ _) | (with_reducible show LCg.CompEnd _ _ _ _ _ _ _ _ _ _ _ _ _ _) | (with_reducible show LCg.FinE _ _ _ _ _ _ _)); first | (k_unfold; (try dsimp only)) | walk1 | (dsimp only; walk1)))
    rename (News _ _ _ _) => N2
    refine Calls.call_len_list (items := xs.toArray) ⟨_, (N2 _ (.tail _ (.tail _ (.tail _ (.tail _ (.tail _ (.tail _ (.tail _ (.tail _ (.tail _ hx1)))))))))).1, rfl, _, rfl⟩ (by rw [List.size_toArray]; omega) ?_
    rw [List.size_toArray, hx3]
    have hp : (0 : Int) < (X1.length : Int) := by omega
    have hm1 := Int.fmod_nonneg_of_pos (i : Int) hp
    have hm2 := Int.fmod_lt_of_pos (i : Int) hp
    have hk := fmod_nat i X1.length
    refine Classical.byContradiction fun hgo9 => ?_
    obtain ⟨b, tb, hb1, hb2, hb3⟩ := ints_at (k := i % X1.length) hx2 (Nat.mod_lt _ (by omega))
    refine hgo9 ?_
    clear hgo9
    have hb := hXb b hb1
    rw [getD_some hb2] at hws
    (repeat' ((fail_if_success first | (with_reducible show wpAny _ _ (PySem.eval (PySem.Expr.ListComp _ _ _ _) _) _ _ _) | (with_reducible show wpAny _ _ (subscriptTail _ _ (Value.ref _) (Value.int _ _)) _ _ _) | (with_reducible show wpAny _ _ (call (Value.ref _) _) _ _ _) | (with_reducible show LCg.CompSrc _ _ _ _ _ _ _ _ _ _ _ _ _ _) | (with_reducible show LCg.FinA _ _ _ _ _ _ _ _) | (with_reducible show RgEnd _ _ _ _ _ _ _ _ _ _) | (with_reducible show wpAny _ _ (call (Value.builtin "len") _) _ _ _) | (with_reducible show wpAny _ _ (PySem.pyIter _) _ _ _) | (with_reducible show wpAny _ _ (PySem.compareOp _ (Value.ref _) (Value.ref _)) _ _ _) | (with_reducible show LCg.CompEnd _ _ _ _ _ _ _ _ _ _ _ _ _ _) | (with_reducible show LCg.FinE _ _ _ _ _ _ _)); first | (k_unfold; (try dsimp only)) | walk1 | (dsimp only; walk1)))
    · refine item_K (.int (b : Int) tb) (by k_asm) (.tail _ (.tail _ (.tail _ (.tail _ (.tail _ (.tail _ (.tail _ (.tail _ (.tail _ hx1))))))))) hm1 (by omega) (by rw [hk]; exact hb3) ?_
      (repeat' ((fail_if_success first | (with_reducible show wpAny _ _ (PySem.eval (PySem.Expr.ListComp _ _ _ _) _) _ _ _) | (with_reducible show wpAny _ _ (subscriptTail _ _ (Value.ref _) (Value.int _ _)) _ _ _) | (with_reducible show wpAny _ _ (call (Value.ref _) _) _ _ _) | (with_reducible show LCg.CompSrc _ _ _ _ _ _ _ _ _ _ _ _ _ _) | (with_reducible show LCg.FinA _ _ _ _ _ _ _ _) | (with_reducible show RgEnd _ _ _ _ _ _ _ _ _ _) | (with_reducible show wpAny _ _ (call (Value.builtin "len") _) _ _ _) | (with_reducible show wpAny _ _ (PySem.pyIter _) _ _ _) | (with_reducible show wpAny _ _ (PySem.compareOp _ (Value.ref _) (Value.ref _)) _ _ _) | (with_reducible show LCg.CompEnd _ _ _ _ _ _ _ _ _ _ _ _ _ _) | (with_reducible show LCg.FinE _ _ _ _ _ _ _)); first | (k_unfold; (try dsimp only)) | walk1 | (dsimp only; walk1)))
      rename (Fr _ _ _ _) => F9
      rename (News _ _ _ _) => N9
      refine ⟨_, _, _, rfl, F9, fun q hq => N9 q (.tail _ hq), fun x k1 k2 => ?_, ⟨_, by rw [hws]; rfl⟩⟩
      simp only [if_neg k1, if_neg k2]; exact hJ1 x k1 k2
  · intro m₁ h tk hJ F₁ N₁
    obtain ⟨hJ1, tw, hJ2⟩ := hJ
    exact next h tk m₁ tw hJ1 hJ2 F₁ N₁
end

-- part L6
section
theorem asInts_inj {a b : List Nat} : (asInts a = asInts b) ↔ a = b := by
  constructor
  · intro h
    induction a generalizing b with
    | nil => cases b with
      | nil => rfl
      | cons y r => simp [asInts] at h
    | cons x l ih => cases b with
      | nil => simp [asInts] at h
      | cons y r =>
        simp only [asInts, List.map_cons, List.cons.injEq] at h
        rw [show x = y by omega, ih h.2]
  · intro h; rw [h]
set_option maxHeartbeats 1000000 in
theorem st_fits (w : World) (p : Program) (loose : List Str) (mean : ExcName → Option Value) (mg mb : Str → Option Value) (g₀ : Heap) (L fa : Addr) (cd : Value) (m : Str → Option Value) (rest : List (Addr × Obj)) (c5 c4 c3 c2 c1 : Obj) (t8 t6 : Array Value) (s : Shared) (Q : Flow → Shared → Prop)
    (X : (hd.heap_39 w.params).In g₀) (K : Below callerA g₀ [] g₀) (T : Top p loose mean mg mb g₀) (l0 : @LT.lt Nat _ 82 L ∧ @LT.lt Nat _ 65 L) (C8 : CodeHd g₀ 86 82) (C6 : CodeHd g₀ 69 65)
    (F : Fr g₀ L s.heap m) (N : News g₀ L s.heap (cellsL L c5 c4 c3 c2 c1 t8 t6 rest)) (S : LSep L rest) (k5 : isC c5) (k4 : isC c4) (k3 : isC c3) (k2 : isC c2) (k1 : isC c1)
    (z : Nat) (tz : Tok) (hz : z < 4) (hm : m "width" = some (.int (z : Int) tz)) (rl : Addr) (X1 : List Nat) (e2 : c2.data = .cell (some (.ref rl))) (hX : RowAt rest rl X1) (h1 : 1 ≤ X1.length) (h3 : X1.length ≤ 3) (hXb : ∀ b ∈ X1, b < 2) (rr : Addr) (Y1 : List Nat) (e3 : c3.data = .cell (some (.ref rr))) (hY : RowAt rest rr Y1) (p1 p2 p3 p4 p5 p6 p7 p8 : Pos)
    (next : ∀ h tk, Fr g₀ L h (fun y => if y = Str.ofString "fits" then some (.bool (decide (Y1 = turnOf X1 z))) else m y) → News g₀ L h (cellsL L c5 c4 c3 c2 c1 t8 t6 rest) → Q .next { s with heap := h, toks := tk }) :
    wpAny (model prg w) (lawA L fa cd) (PySem.exec (.Assign [.Name "fits" p1] (.Compare (.Name "right" p2) [.Eq] [.Call (.Name "_law_turned" p3) [.Name "left" p4, .Name "width" p5] [] p6] p7) p8) (lawEnv L fa cd)) Q (fun _ _ => False) s := by
  w_top off
  have : (PySem.Challenge.rw_re0071_01, hd.heap_39) = (PySem.Challenge.rw_re0071_01, hd.heap_39) := by
    k_fill
    rfl
  clear this
  rw [map_one hm] at F
  (repeat' ((fail_if_success first | (with_reducible show wpAny _ _ (PySem.eval (PySem.Expr.ListComp _ _ _ _) _) _ _ _) | (with_reducible show wpAny _ _ (subscriptTail _ _ (Value.ref _) (Value.int _ _)) _ _ _) | (with_reducible show wpAny _ _ (call (Value.ref _) _) _ _ _) | (with_reducible show LCg.CompSrc _ _ _ _ _ _ _ _ _ _ _ _ _ _) | (with_reducible show LCg.FinA _ _ _ _ _ _ _ _) | (with_reducible show wpAny _ _ (PySem.compareOp _ (Value.ref _) (Value.ref _)) _ _ _) | (with_reducible show LCg.CompEnd _ _ _ _ _ _ _ _ _ _ _ _ _ _) | (with_reducible show LCg.FinE _ _ _ _ _ _ _)); first | (k_unfold; (try dsimp only)) | walk1 | (dsimp only; walk1)))
  refine' turned_spec _ _ _ _ _ _ _ _ _ _ _ _ _ _ _ _ _ _ _ _ _ _ _ _ _ _ _ _ ?B ?F ?X ?N ?T ?hk ?hR h1 h3 ?hd ?hu ?hr
  case B => k_asm
  case F => k_asm
  case X => k_asm
  case N => exact N
  case T => k_asm
  case hk => exact rfl
  case hR => exact hX.mono fun q hq => cells_rest q hq
  case hd => ktr_room
  case hu => ktr_units
  intro r1 h2 tk2 news1 F2 N2 hs1 hnw1 hR1
  obtain ⟨ys1, ee1, hy1, hy2⟩ := hY
  obtain ⟨ys2, ee2, hy3, hy4⟩ := hR1
  (repeat' ((fail_if_success first | (with_reducible show wpAny _ _ (PySem.eval (PySem.Expr.ListComp _ _ _ _) _) _ _ _) | (with_reducible show wpAny _ _ (subscriptTail _ _ (Value.ref _) (Value.int _ _)) _ _ _) | (with_reducible show wpAny _ _ (call (Value.ref _) _) _ _ _) | (with_reducible show LCg.CompSrc _ _ _ _ _ _ _ _ _ _ _ _ _ _) | (with_reducible show LCg.FinA _ _ _ _ _ _ _ _) | (with_reducible show wpAny _ _ (PySem.compareOp _ (Value.ref _) (Value.ref _)) _ _ _) | (with_reducible show LCg.CompEnd _ _ _ _ _ _ _ _ _ _ _ _ _ _) | (with_reducible show LCg.FinE _ _ _ _ _ _ _)); first | (k_unfold; (try dsimp only)) | walk1 | (dsimp only; walk1)))
  refine ke_eq_ints (xs := ys1) (ys := ys2) ⟨_, (N2 _ (hs1 _ (cells_rest _ hy1))).1, rfl, ee1, rfl⟩ ⟨_, (N2 _ hy3).1, rfl, ee2, rfl⟩ hy2 hy4 (by ke_room) ?_
  have ed : decide (asInts Y1 = asInts (X1.drop (z % X1.length) ++ X1.take (z % X1.length))) = decide (Y1 = turnOf X1 z) := decide_eq_decide.mpr asInts_inj
  rw [ed]
  have N3 : News g₀ L h2 (cellsL L c5 c4 c3 c2 c1 t8 t6 rest) := fun q hq => N2 q (hs1 q hq)
  clear N2 N
  (repeat' ((fail_if_success first | (with_reducible show wpAny _ _ (PySem.eval (PySem.Expr.ListComp _ _ _ _) _) _ _ _) | (with_reducible show wpAny _ _ (subscriptTail _ _ (Value.ref _) (Value.int _ _)) _ _ _) | (with_reducible show wpAny _ _ (call (Value.ref _) _) _ _ _) | (with_reducible show LCg.CompSrc _ _ _ _ _ _ _ _ _ _ _ _ _ _) | (with_reducible show LCg.FinA _ _ _ _ _ _ _ _) | (with_reducible show wpAny _ _ (PySem.compareOp _ (Value.ref _) (Value.ref _)) _ _ _) | (with_reducible show LCg.CompEnd _ _ _ _ _ _ _ _ _ _ _ _ _ _) | (with_reducible show LCg.FinE _ _ _ _ _ _ _)); first | (k_unfold; (try dsimp only)) | walk1 | (dsimp only; walk1)))
  rename (Fr _ _ _ _) => F9
  rename (News _ _ _ _) => N9
  exact next _ _ (by rw [map_one hm]; exact F9) N9
set_option maxHeartbeats 1000000 in
theorem st_zero (w : World) (p : Program) (loose : List Str) (mean : ExcName → Option Value) (mg mb : Str → Option Value) (g₀ : Heap) (L fa : Addr) (cd : Value) (m : Str → Option Value) (rest : List (Addr × Obj)) (c5 c4 c3 c2 c1 : Obj) (t8 t6 : Array Value) (s : Shared) (Q : Flow → Shared → Prop)
    (X : (hd.heap_39 w.params).In g₀) (K : Below callerA g₀ [] g₀) (T : Top p loose mean mg mb g₀) (l0 : @LT.lt Nat _ 82 L ∧ @LT.lt Nat _ 65 L) (C8 : CodeHd g₀ 86 82) (C6 : CodeHd g₀ 69 65)
    (F : Fr g₀ L s.heap m) (N : News g₀ L s.heap (cellsL L c5 c4 c3 c2 c1 t8 t6 rest)) (S : LSep L rest) (k5 : isC c5) (k4 : isC c4) (k3 : isC c3) (k2 : isC c2) (k1 : isC c1)
    (hz : True) (p1 p2 p3 : Pos)
    (next : ∀ h tk t, Fr g₀ L h (fun y => if y = Str.ofString "wanted" then some (.int 0 t) else m y) → News g₀ L h (cellsL L c5 c4 c3 c2 c1 t8 t6 rest) → Q .next { s with heap := h, toks := tk }) :
    wpAny (model prg w) (lawA L fa cd) (PySem.exec (.Assign [.Name "wanted" p1] (.Constant (.int 0) 0 p2) p3) (lawEnv L fa cd)) Q (fun _ _ => False) s := by
  have : (PySem.Challenge.rw_re0071_01, hd.heap_39) = (PySem.Challenge.rw_re0071_01, hd.heap_39) := by
    k_fill
    rfl
  clear this
  (repeat' ((fail_if_success first | (with_reducible show wpAny _ _ (PySem.eval (PySem.Expr.ListComp _ _ _ _) _) _ _ _) | (with_reducible show wpAny _ _ (subscriptTail _ _ (Value.ref _) (Value.int _ _)) _ _ _) | (with_reducible show wpAny _ _ (call (Value.ref _) _) _ _ _) | (with_reducible show LCg.CompSrc _ _ _ _ _ _ _ _ _ _ _ _ _ _) | (with_reducible show LCg.FinA _ _ _ _ _ _ _ _) | (with_reducible show wpAny _ _ (PySem.compareOp _ (Value.ref _) (Value.ref _)) _ _ _) | (with_reducible show LCg.CompEnd _ _ _ _ _ _ _ _ _ _ _ _ _ _) | (with_reducible show LCg.FinE _ _ _ _ _ _ _)); first | (k_unfold; (try dsimp only)) | walk1 | (dsimp only; walk1)))
  rename (Fr _ _ _ _) => F9
  rename (News _ _ _ _) => N9
  exact next _ _ _ F9 N9
set_option maxHeartbeats 1000000 in
theorem st_if1 (w : World) (p : Program) (loose : List Str) (mean : ExcName → Option Value) (mg mb : Str → Option Value) (g₀ : Heap) (L fa : Addr) (cd : Value) (m : Str → Option Value) (rest : List (Addr × Obj)) (c5 c4 c3 c2 c1 : Obj) (t8 t6 : Array Value) (s : Shared) (Q : Flow → Shared → Prop)
    (X : (hd.heap_39 w.params).In g₀) (K : Below callerA g₀ [] g₀) (T : Top p loose mean mg mb g₀) (l0 : @LT.lt Nat _ 82 L ∧ @LT.lt Nat _ 65 L) (C8 : CodeHd g₀ 86 82) (C6 : CodeHd g₀ 69 65)
    (F : Fr g₀ L s.heap m) (N : News g₀ L s.heap (cellsL L c5 c4 c3 c2 c1 t8 t6 rest)) (S : LSep L rest) (k5 : isC c5) (k4 : isC c4) (k3 : isC c3) (k2 : isC c2) (k1 : isC c1)
    (al : Addr) (bs : List Bool) (fb : Bool) (hm1 : m "alike" = some (.ref al)) (hm2 : m "fits" = some (.bool fb)) (hA : (al, LCg.lst (bs.map .bool)) ∈ rest) (hl : bs.length ≤ 8) (hc : bs.count true = if fb then 1 else 0) (p1 p2 p3 p4 p5 p6 p7 p8 p9 pa pb pc : Pos)
    (next : ∀ h tk, Fr g₀ L h m → News g₀ L h (cellsL L c5 c4 c3 c2 c1 t8 t6 rest) → Q .next { s with heap := h, toks := tk }) :
    wpAny (model prg w) (lawA L fa cd) (PySem.exec (.If (.Compare (.Call (.Name "countOf" p1) [.Name "alike" p2, .Constant (.bool true) 0 p3] [] p4) [.NotEq] [.IfExp (.Name "fits" p5) (.Constant (.int 1) 0 p6) (.Constant (.int 0) 0 p7) p8] p9) [.Return (some (.Constant (.bool false) 0 pa)) pb] [] pc) (lawEnv L fa cd)) Q (fun _ _ => False) s := by
  have : (PySem.Challenge.rw_re0071_01, hd.heap_39) = (PySem.Challenge.rw_re0071_01, hd.heap_39) := by
    k_fill
    rfl
  clear this
  have em : m = fun y => if y = Str.ofString "alike" then some (.ref al) else if y = Str.ofString "fits" then some (.bool fb) else m y := by
    funext y; split
    · rename_i e; rw [e]; exact hm1
    · split
      · rename_i e; rw [e]; exact hm2
      · rfl
  rw [em] at F
  (repeat' ((fail_if_success first | (with_reducible show wpAny _ _ (PySem.eval (PySem.Expr.ListComp _ _ _ _) _) _ _ _) | (with_reducible show wpAny _ _ (subscriptTail _ _ (Value.ref _) (Value.int _ _)) _ _ _) | (with_reducible show wpAny _ _ (call (Value.ref _) _) _ _ _) | (with_reducible show LCg.CompSrc _ _ _ _ _ _ _ _ _ _ _ _ _ _) | (with_reducible show LCg.FinA _ _ _ _ _ _ _ _) | (with_reducible show wpAny _ _ (PySem.compareOp _ (Value.ref _) (Value.ref _)) _ _ _) | (with_reducible show LCg.CompEnd _ _ _ _ _ _ _ _ _ _ _ _ _ _) | (with_reducible show LCg.FinE _ _ _ _ _ _ _)); first | (k_unfold; (try dsimp only)) | walk1 | (dsimp only; walk1)))
  refine' countof_spec _ _ _ _ _ _ _ _ _ _ _ _ _ _ _ _ _ _ _ _ _ _  al bs (bs.map Value.bool).length _ _ ?B ?F ?X ?N ?T ?hk ?hm hl ?hd ?hu ?hr
  case B => k_asm
  case F => k_asm
  case X => k_asm
  case N => exact N
  case T => k_asm
  case hk => exact rfl
  case hm => exact cells_rest _ hA
  case hd => ktr_room
  case hu => ktr_units
  intro t h2 tk2 F2 N2
  rw [hc]
  clear N
  cases fb with
  | true =>
    (repeat' ((fail_if_success first | (with_reducible show wpAny _ _ (PySem.eval (PySem.Expr.ListComp _ _ _ _) _) _ _ _) | (with_reducible show wpAny _ _ (subscriptTail _ _ (Value.ref _) (Value.int _ _)) _ _ _) | (with_reducible show wpAny _ _ (call (Value.ref _) _) _ _ _) | (with_reducible show LCg.CompSrc _ _ _ _ _ _ _ _ _ _ _ _ _ _) | (with_reducible show LCg.FinA _ _ _ _ _ _ _ _) | (with_reducible show wpAny _ _ (PySem.compareOp _ (Value.ref _) (Value.ref _)) _ _ _) | (with_reducible show LCg.CompEnd _ _ _ _ _ _ _ _ _ _ _ _ _ _) | (with_reducible show LCg.FinE _ _ _ _ _ _ _)); first | (k_unfold; (try dsimp only)) | walk1 | (dsimp only; walk1)))
    rename (Fr _ _ _ _) => F9
    rename (News _ _ _ _) => N9
    exact next _ _ (by rw [em]; exact F9) N9
  | false =>
    (repeat' ((fail_if_success first | (with_reducible show wpAny _ _ (PySem.eval (PySem.Expr.ListComp _ _ _ _) _) _ _ _) | (with_reducible show wpAny _ _ (subscriptTail _ _ (Value.ref _) (Value.int _ _)) _ _ _) | (with_reducible show wpAny _ _ (call (Value.ref _) _) _ _ _) | (with_reducible show LCg.CompSrc _ _ _ _ _ _ _ _ _ _ _ _ _ _) | (with_reducible show LCg.FinA _ _ _ _ _ _ _ _) | (with_reducible show wpAny _ _ (PySem.compareOp _ (Value.ref _) (Value.ref _)) _ _ _) | (with_reducible show LCg.CompEnd _ _ _ _ _ _ _ _ _ _ _ _ _ _) | (with_reducible show LCg.FinE _ _ _ _ _ _ _)); first | (k_unfold; (try dsimp only)) | walk1 | (dsimp only; walk1)))
    rename (Fr _ _ _ _) => F9
    rename (News _ _ _ _) => N9
    exact next _ _ (by rw [em]; exact F9) N9
set_option maxHeartbeats 1000000 in
theorem st_if2 (w : World) (p : Program) (loose : List Str) (mean : ExcName → Option Value) (mg mb : Str → Option Value) (g₀ : Heap) (L fa : Addr) (cd : Value) (m : Str → Option Value) (rest : List (Addr × Obj)) (c5 c4 c3 c2 c1 : Obj) (t8 t6 : Array Value) (s : Shared) (Q : Flow → Shared → Prop)
    (X : (hd.heap_39 w.params).In g₀) (K : Below callerA g₀ [] g₀) (T : Top p loose mean mg mb g₀) (l0 : @LT.lt Nat _ 82 L ∧ @LT.lt Nat _ 65 L) (C8 : CodeHd g₀ 86 82) (C6 : CodeHd g₀ 69 65)
    (F : Fr g₀ L s.heap m) (N : News g₀ L s.heap (cellsL L c5 c4 c3 c2 c1 t8 t6 rest)) (S : LSep L rest) (k5 : isC c5) (k4 : isC c4) (k3 : isC c3) (k2 : isC c2) (k1 : isC c1)
    (XB : True) (al : Addr) (bs : List Bool) (fb : Bool) (W : Nat) (tw : Tok) (hm1 : m "alike" = some (.ref al)) (hm2 : m "fits" = some (.bool fb)) (hm3 : m "wanted" = some (.int (W : Int) tw)) (hA : (al, LCg.lst (bs.map .bool)) ∈ rest) (hl : bs.length ≤ 8) (hi : bs.findIdx? id = if fb then some W else none) (p1 p2 p3 p4 p5 p6 p7 p8 p9 pa pb : Pos)
    (next : ∀ h tk, Fr g₀ L h m → News g₀ L h (cellsL L c5 c4 c3 c2 c1 t8 t6 rest) → Q .next { s with heap := h, toks := tk }) :
    wpAny (model prg w) (lawA L fa cd) (PySem.exec (.If (.Compare (.Call (.Name "_law_place" p1) [.Name "alike" p2] [] p3) [.NotEq] [.IfExp (.Name "fits" p4) (.Name "wanted" p5) (.Constant (.str "refused") 0 p6) p7] p8) [.Return (some (.Constant (.bool false) 0 p9)) pa] [] pb) (lawEnv L fa cd)) Q (fun _ _ => False) s := by
  have : (PySem.Challenge.rw_re0071_01, hd.heap_39) = (PySem.Challenge.rw_re0071_01, hd.heap_39) := by
    k_fill
    rfl
  clear this
  have em : m = fun y => if y = Str.ofString "alike" then some (.ref al) else if y = Str.ofString "fits" then some (.bool fb) else if y = Str.ofString "wanted" then some (.int (W : Int) tw) else m y := by
    funext y; split
    · rename_i e; rw [e]; exact hm1
    · split
      · rename_i e; rw [e]; exact hm2
      · split
        · rename_i e; rw [e]; exact hm3
        · rfl
  rw [em] at F
  (repeat' ((fail_if_success first | (with_reducible show wpAny _ _ (PySem.eval (PySem.Expr.ListComp _ _ _ _) _) _ _ _) | (with_reducible show wpAny _ _ (subscriptTail _ _ (Value.ref _) (Value.int _ _)) _ _ _) | (with_reducible show wpAny _ _ (call (Value.ref _) _) _ _ _) | (with_reducible show LCg.CompSrc _ _ _ _ _ _ _ _ _ _ _ _ _ _) | (with_reducible show LCg.FinA _ _ _ _ _ _ _ _) | (with_reducible show wpAny _ _ (PySem.compareOp _ (Value.ref _) (Value.ref _)) _ _ _) | (with_reducible show LCg.CompEnd _ _ _ _ _ _ _ _ _ _ _ _ _ _) | (with_reducible show LCg.FinE _ _ _ _ _ _ _)); first | (k_unfold; (try dsimp only)) | walk1 | (dsimp only; walk1)))
  refine' place_spec _ _ _ _ _ _ _ _ _ _ _ _ _ _ _ _ _ _ _ _ _  al bs (bs.map Value.bool).length _ _ ?B ?F ?X ?N ?T ?hk ?XB ?TB ?hm hl ?hd ?hu ?hr
  case B => k_asm
  case F => k_asm
  case X => k_asm
  case N => exact N
  case T => k_asm
  case hk => exact rfl
  case XB => k_asm
  case TB => k_asm
  case hm => exact cells_rest _ hA
  case hd => ktr_room
  case hu => ktr_units
  intro v h2 tk2 hv F2 N2
  rw [hi] at hv
  clear N
  cases fb with
  | true =>
    obtain ⟨t, rfl⟩ := hv
    (repeat' ((fail_if_success first | (with_reducible show wpAny _ _ (PySem.eval (PySem.Expr.ListComp _ _ _ _) _) _ _ _) | (with_reducible show wpAny _ _ (subscriptTail _ _ (Value.ref _) (Value.int _ _)) _ _ _) | (with_reducible show wpAny _ _ (call (Value.ref _) _) _ _ _) | (with_reducible show LCg.CompSrc _ _ _ _ _ _ _ _ _ _ _ _ _ _) | (with_reducible show LCg.FinA _ _ _ _ _ _ _ _) | (with_reducible show wpAny _ _ (PySem.compareOp _ (Value.ref _) (Value.ref _)) _ _ _) | (with_reducible show LCg.CompEnd _ _ _ _ _ _ _ _ _ _ _ _ _ _) | (with_reducible show LCg.FinE _ _ _ _ _ _ _)); first | (k_unfold; (try dsimp only)) | walk1 | (dsimp only; walk1)))
    all_goals first
      | (exfalso; omega)
      | (rename (Fr _ _ _ _) => F9; rename (News _ _ _ _) => N9; exact next _ _ (by rw [em]; exact F9) N9)
  | false =>
    obtain ⟨t, rfl⟩ := hv
    (repeat' ((fail_if_success first | (with_reducible show wpAny _ _ (PySem.eval (PySem.Expr.ListComp _ _ _ _) _) _ _ _) | (with_reducible show wpAny _ _ (subscriptTail _ _ (Value.ref _) (Value.int _ _)) _ _ _) | (with_reducible show wpAny _ _ (call (Value.ref _) _) _ _ _) | (with_reducible show LCg.CompSrc _ _ _ _ _ _ _ _ _ _ _ _ _ _) | (with_reducible show LCg.FinA _ _ _ _ _ _ _ _) | (with_reducible show wpAny _ _ (PySem.compareOp _ (Value.ref _) (Value.ref _)) _ _ _) | (with_reducible show LCg.CompEnd _ _ _ _ _ _ _ _ _ _ _ _ _ _) | (with_reducible show LCg.FinE _ _ _ _ _ _ _)); first | (k_unfold; (try dsimp only)) | walk1 | (dsimp only; walk1)))
    rename (Fr _ _ _ _) => F9
    rename (News _ _ _ _) => N9
    exact next _ _ (by rw [em]; exact F9) N9
end

-- part Rd
section
theorem T_small : ∀ i, ∀ x ∈ T i, x < 128
  | 0 => by decide
  | 1 => by decide
  | 2 => by decide
  | 3 => by decide
  | 4 => by decide
  | _ + 5 => by show ∀ x ∈ [97, 59, 32, 98, 61, 34, 97, 59, 34], x < 128; decide
theorem J_small : ∀ is, ∀ x ∈ J is, x < 128
  | [], x, h => by simp [J] at h
  | [i], x, h => T_small i x h
  | i :: j :: r, x, h => by
    rw [show J (i :: j :: r) = T i ++ 44 :: 32 :: J (j :: r) from rfl] at h
    simp only [List.mem_append, List.mem_cons] at h
    rcases h with h | rfl | rfl | h
    · exact T_small i x h
    · decide
    · decide
    · exact J_small (j :: r) x h
theorem rowText_ok (f g : Nat) (row : List Nat) : PyData.strOk (rowText f g row) = true := by
  unfold rowText
  rw [glued_J]
  show ((J _).toArray).all (fun c => decide (c < 0x110000)) = true
  rw [Array.all_eq_true']
  intro x hx
  have := J_small _ x (by simpa using hx)
  exact decide_eq_true (by omega)
theorem eqvAll_refl {α : Type} (f : α → PyData) (h : ∀ a, PyData.eqv (f a) (f a) = true) : ∀ l : List α, PyData.eqvAll (l.map f) (l.map f) = true
  | [] => by simp [PyData.eqvAll]
  | a :: l => by simp only [List.map_cons, PyData.eqvAll, h a, eqvAll_refl f h l, Bool.and_self]
theorem canAll {α : Type} (f : α → PyData) : ∀ l : List α, (∀ a ∈ l, (f a).canLay0 = true) → PyData.canLayAll0 (l.map f) = true
  | [], _ => by simp [PyData.canLayAll0]
  | a :: l, h => by simp only [List.map_cons, PyData.canLayAll0, h a (.head _), canAll f l fun b hb => h b (.tail _ hb), Bool.and_self]
theorem depthAll_le {α : Type} (f : α → PyData) (n : Nat) : ∀ l : List α, (∀ a ∈ l, (f a).depth ≤ n) → PyData.depthAll (l.map f) ≤ n
  | [], _ => by simp [PyData.depthAll]
  | a :: l, h => by
    simp only [List.map_cons, PyData.depthAll]
    exact Nat.max_le.mpr ⟨h a (.head _), depthAll_le f n l fun b hb => h b (.tail _ hb)⟩
theorem texts_shaped {xs : List Str} (h : ∀ x ∈ xs, PyData.strOk x = true) : SeqAt.shaped (.list (xs.map PyData.str)) = true := by
  unfold SeqAt.shaped
  simp only [PyData.canLay0, PyData.depth, Bool.and_eq_true, decide_eq_true_eq]
  refine ⟨canAll _ _ fun x hx => by simpa [PyData.canLay0] using h x hx, ?_⟩
  exact decide_eq_true (Nat.le_trans (Nat.succ_le_succ (depthAll_le PyData.str 0 xs fun _ _ => by simp [PyData.depth])) (show 1 ≤ 64 by decide))
theorem texts_eqv (xs : List Str) : PyData.eqv (.list (xs.map PyData.str)) (.list (xs.map PyData.str)) = true := by
  simp only [PyData.eqv]
  exact eqvAll_refl _ (fun a => by simp [PyData.eqv]) xs
theorem reads_strs {h : Heap} : ∀ l : List (Str × Tok), ReadsAll h (strValues l) ((l.map (·.1)).map PyData.str) []
  | [] => .nil
  | (x, t) :: l => ReadsAll.cons (as := []) (bs := []) (.str x t) (reads_strs l)
theorem reads_texts {g h : Heap} {L r : Addr} {news : List (Addr × Obj)} (N : News g L h news) {l : List (Str × Tok)} (hr : (r, LCg.lst (strValues l)) ∈ news) : Reads h (.ref r) (.list ((l.map (·.1)).map PyData.str)) [r] :=
  reads_list_at (N _ hr).1 rfl rfl (by simpa using reads_strs l)
/-- the words as data -/
def kvD (p : KV) : PyData := .tuple [.str p.1, match p.2 with | none => .none | some x => .str x]
def wordD (l : List KV) : PyData := .list (l.map kvD)
section
variable {g h : Heap} {L : Addr} {news : List (Addr × Obj)}
theorem reads_pair (N : News g L h news) {v : Value} {p : KV} (hp : PairIn news v p) : ∃ as, Reads h v (kvD p) as := by
  obtain ⟨t, tk, u, rfl, hm, hv⟩ := hp
  obtain ⟨k, vo⟩ := p
  cases vo with
  | none =>
    have hu : u = .none := hv
    subst hu
    exact ⟨_, reads_tuple_at (N _ hm).1 rfl rfl (.cons (.str k tk) (.cons .none .nil))⟩
  | some x =>
    obtain ⟨tx, hu⟩ := hv
    subst hu
    exact ⟨_, reads_tuple_at (N _ hm).1 rfl rfl (.cons (.str k tk) (.cons (.str x tx) .nil))⟩
theorem reads_pairs (N : News g L h news) : ∀ {vs : List Value} {ps : List KV}, PairsIn news vs ps → ∃ as, ReadsAll h vs (ps.map kvD) as
  | [], [], _ => ⟨_, .nil⟩
  | v :: vs, p :: ps, ⟨a, r⟩ => by
    obtain ⟨as, h1⟩ := reads_pair N a
    obtain ⟨bs, h2⟩ := reads_pairs N r
    exact ⟨_, .cons h1 h2⟩
theorem reads_word (N : News g L h news) {v : Value} {l : List KV} (hw : WordIn news v l) : ∃ as, Reads h v (wordD l) as := by
  obtain ⟨r, ts, e, rfl, hm, hp⟩ := hw
  obtain ⟨as, h1⟩ := reads_pairs N hp
  exact ⟨_, reads_list_at (N _ hm).1 rfl rfl (by simpa using h1)⟩
theorem reads_words (N : News g L h news) : ∀ {vs : List Value} {ws : List (List KV)}, WordsIn news vs ws → ∃ as, ReadsAll h vs (ws.map wordD) as
  | [], [], _ => ⟨_, .nil⟩
  | v :: vs, p :: ps, ⟨a, r⟩ => by
    obtain ⟨as, h1⟩ := reads_word N a
    obtain ⟨bs, h2⟩ := reads_words N r
    exact ⟨_, .cons h1 h2⟩
theorem reads_words_list (N : News g L h news) {r : Addr} {vs : List Value} {e : Nat} {ws : List (List KV)} (hr : (r, lstO vs e) ∈ news) (hw : WordsIn news vs ws) : ∃ as, Reads h (.ref r) (.list (ws.map wordD)) as := by
  obtain ⟨as, h1⟩ := reads_words N hw
  exact ⟨_, reads_list_at (N _ hr).1 rfl rfl (by simpa using h1)⟩
end
theorem kv_eqv (p : KV) : PyData.eqv (kvD p) (kvD p) = true := by
  obtain ⟨k, vo⟩ := p
  cases vo <;> simp [kvD, PyData.eqv, PyData.eqvAll]
theorem word_eqv (l : List KV) : PyData.eqv (wordD l) (wordD l) = true := by
  simp only [wordD, PyData.eqv]
  exact eqvAll_refl _ kv_eqv l
theorem words_eqv (ws : List (List KV)) : PyData.eqv (.list (ws.map wordD)) (.list (ws.map wordD)) = true := by
  simp only [PyData.eqv]
  exact eqvAll_refl _ word_eqv ws
theorem wd_can (i : Nat) : (wordD (wd i)).canLay0 = true ∧ (wordD (wd i)).depth ≤ 2 := by
  unfold wd
  split <;> decide +kernel
theorem words_shaped (is : List Nat) : SeqAt.shaped (.list ((is.map wd).map wordD)) = true := by
  unfold SeqAt.shaped
  simp only [PyData.canLay0, PyData.depth, Bool.and_eq_true, decide_eq_true_eq]
  rw [List.map_map]
  refine ⟨canAll (wordD ∘ wd) _ fun i _ => (wd_can i).1, ?_⟩
  exact decide_eq_true (Nat.le_trans (Nat.succ_le_succ (depthAll_le (wordD ∘ wd) 2 is fun i _ => (wd_can i).2)) (show 3 ≤ 64 by decide))
end

-- part L7
section
theorem ints_app {xs zs : List Value} {a b : List Nat} (h1 : IntsAre xs (asInts a)) (h2 : IntsAre zs (asInts b)) : IntsAre (xs ++ zs) (asInts (a ++ b)) := by
  rw [asInts, List.map_append]; exact h1.append h2
set_option maxHeartbeats 1000000 in
theorem st_if4 (w : World) (p : Program) (loose : List Str) (mean : ExcName → Option Value) (mg mb : Str → Option Value) (g₀ : Heap) (L fa : Addr) (cd : Value) (m : Str → Option Value) (rest : List (Addr × Obj)) (c5 c4 c3 c2 c1 : Obj) (t8 t6 : Array Value) (s : Shared) (Q : Flow → Shared → Prop)
    (X : (hd.heap_39 w.params).In g₀) (K : Below callerA g₀ [] g₀) (T : Top p loose mean mg mb g₀) (l0 : @LT.lt Nat _ 82 L ∧ @LT.lt Nat _ 65 L) (C8 : CodeHd g₀ 86 82) (C6 : CodeHd g₀ 69 65)
    (F : Fr g₀ L s.heap m) (N : News g₀ L s.heap (cellsL L c5 c4 c3 c2 c1 t8 t6 rest)) (S : LSep L rest) (k5 : isC c5) (k4 : isC c4) (k3 : isC c3) (k2 : isC c2) (k1 : isC c1)
    (z : Nat) (hz : z < 4) (rm rp rl ra : Addr) (f g : Nat) (X1 : List Nat) (ysm : List Value) (hm : m "middles" = some (.ref rm)) (hM : (rm, LCg.lst ysm) ∈ rest) (hMs : RowsIn rest ysm (rowsOf z)) (e1 : c1.data = .cell (some (.ref rp))) (hP : PairAt rest rp f g)
    (e2 : c2.data = .cell (some (.ref rl))) (hX : RowAt rest rl X1) (hXl : X1.length ≤ 3) (hXb : ∀ b ∈ X1, b < 2) (la : List (Str × Tok)) (e4 : c4.data = .cell (some (.ref ra))) (hA : (ra, LCg.lst (strValues la)) ∈ rest) (hla : la.map (·.1) = (rowsOf z).map (fun Z => rowText f g (X1 ++ Z))) (p1 p2 p3 p4 p5 p6 p7 p8 p9 pa pb pc pd pe : Pos)
    (next : ∀ h tk, Fr g₀ L h m → News g₀ L h (cellsL L c5 c4 c3 c2 c1 t8 t6 rest) → Q .next { s with heap := h, toks := tk }) :
    wpAny (model prg w) (lawA L fa cd) (PySem.exec (.If (.Compare (.Name "ahead" p1) [.NotEq] [.ListComp (.Call (.Name "_law_due" p2) [.Name "both" p3, .BinOp (.Name "left" p4) .Add (.Name "middle" p5) p6] [] p7) [⟨.Name "middle" p8, .Name "middles" p9, [], 0⟩] { kind := .function, names := [(".0", .local), ("middle", .local), ("_law_due", .globalImplicit), ("both", .free), ("left", .free)], isGenerator := false, isCoroutine := false } pa] pb) [.Return (some (.Constant (.bool false) 0 pc)) pd] [] pe) (lawEnv L fa cd)) Q (fun _ _ => False) s := by
  w_top off
  have : (PySem.Challenge.rw_re0071_01, hd.heap_39) = (PySem.Challenge.rw_re0071_01, hd.heap_39) := by
    k_fill
    rfl
  clear this
  rw [map_one hm] at F
  have hz4 : z = 0 ∨ z = 1 ∨ z = 2 ∨ z = 3 := by omega
  have hlz2 : ysm.length = 2 ^ z := by rw [hMs.len, rows_len]
  have hz8 : 2 ^ z ≤ 8 := by rcases hz4 with rfl | rfl | rfl | rfl <;> decide
  refine Classical.byContradiction fun hgo9 => ?_
  obtain ⟨xs, ex, hx1, hx2, hx3⟩ := hX.len
  refine hgo9 ?_
  clear hgo9
  (repeat' ((fail_if_success first | (with_reducible show wpAny _ _ (PySem.eval (PySem.Expr.ListComp _ _ _ _) _) _ _ _) | (with_reducible show wpAny _ _ (subscriptTail _ _ (Value.ref _) (Value.int _ _)) _ _ _) | (with_reducible show wpAny _ _ (call (Value.ref _) _) _ _ _) | (with_reducible show LCg.CompSrc _ _ _ _ _ _ _ _ _ _ _ _ _ _) | (with_reducible show LCg.FinA _ _ _ _ _ _ _ _) | (with_reducible show wpAny _ _ (PySem.binaryOp _ (Value.ref _) (Value.ref _)) _ _ _) | (with_reducible show wpAny _ _ (PySem.compareOp _ (Value.ref _) (Value.ref _)) _ _ _) | (with_reducible show LCg.CompEnd _ _ _ _ _ _ _ _ _ _ _ _ _ _) | (with_reducible show LCg.FinE _ _ _ _ _ _ _)); first | (k_unfold; (try dsimp only)) | walk1 | (dsimp only; walk1)))
  refine LCg.ListComp_U (F₀ := by k_asm) (by with_unfolding_all rfl) (by decide) (by rfl) (by decide) (by rfl) ?_
  (repeat' ((fail_if_success first | (with_reducible show wpAny _ _ (PySem.eval (PySem.Expr.ListComp _ _ _ _) _) _ _ _) | (with_reducible show wpAny _ _ (subscriptTail _ _ (Value.ref _) (Value.int _ _)) _ _ _) | (with_reducible show wpAny _ _ (call (Value.ref _) _) _ _ _) | (with_reducible show LCg.CompSrc _ _ _ _ _ _ _ _ _ _ _ _ _ _) | (with_reducible show LCg.FinA _ _ _ _ _ _ _ _) | (with_reducible show wpAny _ _ (PySem.binaryOp _ (Value.ref _) (Value.ref _)) _ _ _) | (with_reducible show wpAny _ _ (PySem.compareOp _ (Value.ref _) (Value.ref _)) _ _ _) | (with_reducible show LCg.CompEnd _ _ _ _ _ _ _ _ _ _ _ _ _ _) | (with_reducible show LCg.FinE _ _ _ _ _ _ _)); first | (k_unfold; (try dsimp only)) | walk1 | (dsimp only; walk1)))
  refine CompSrc.inv_list (vs := ysm) (e := ysm.length) (fun i ys _ => ∃ l : List (Str × Tok), ys = strValues l ∧ l.map (·.1) = ((List.range i).map (bitsOf z)).map (fun Z => rowText f g (X1 ++ Z))) rfl (by k_asm) N (cells_rest _ hM) (by omega) ⟨[], rfl, rfl⟩ ?_ ?_
  · intro i ys news1 v I oI C oC D m₂ h tk E' hi hK hsub hnw hv hC hx F3 N3 off n1 n2 n3
    refine Classical.byContradiction fun hgo9 => ?_
    obtain ⟨a1, row, rfl, hrow, hra⟩ := hMs.at hv
    refine hgo9 ?_
    clear hgo9
    have hrow2 : row = bitsOf z i := by
      rw [rows_at (by omega)] at hrow; exact (Option.some.inj hrow).symm
    subst hrow2
    refine Classical.byContradiction fun hgo9 => ?_
    obtain ⟨zs, ez, hz1, hz2, hz3⟩ := hra.len
    refine hgo9 ?_
    clear hgo9
    rw [bits_len] at hz3
    obtain ⟨l, rfl, hl⟩ := hK
    have n4 : ∀ q ∈ rest, q ∈ news1 := fun q hq => hsub q (cells_rest q hq)
    have N4 := news_cons (news_cons N3 (.tail _ (.tail _ (.tail _ (hsub _ (.tail _ (.tail _ (.tail _ (.tail _ (.head _)))))))))) (.tail _ (.tail _ (.tail _ (.tail _ (hsub _ (.tail _ (.tail _ (.tail _ (.head _)))))))))
    (repeat' ((fail_if_success first | (with_reducible show wpAny _ _ (PySem.eval (PySem.Expr.ListComp _ _ _ _) _) _ _ _) | (with_reducible show wpAny _ _ (subscriptTail _ _ (Value.ref _) (Value.int _ _)) _ _ _) | (with_reducible show wpAny _ _ (call (Value.ref _) _) _ _ _) | (with_reducible show LCg.CompSrc _ _ _ _ _ _ _ _ _ _ _ _ _ _) | (with_reducible show LCg.FinA _ _ _ _ _ _ _ _) | (with_reducible show wpAny _ _ (PySem.binaryOp _ (Value.ref _) (Value.ref _)) _ _ _) | (with_reducible show wpAny _ _ (PySem.compareOp _ (Value.ref _) (Value.ref _)) _ _ _) | (with_reducible show LCg.CompEnd _ _ _ _ _ _ _ _ _ _ _ _ _ _) | (with_reducible show LCg.FinE _ _ _ _ _ _ _)); first | (k_unfold; (try dsimp only)) | walk1 | (dsimp only; walk1)))
    refine add_arrays (its := xs.toArray) (its2 := zs.toArray) (by k_asm) N4 ⟨_, (N4 _ (.tail _ (.tail _ (.tail _ (.tail _ (.tail _ (n4 _ hx1))))))).1, rfl, _, rfl⟩ ⟨_, (N4 _ (.tail _ (.tail _ (.tail _ (.tail _ (.tail _ (n4 _ hz1))))))).1, rfl, _, rfl⟩ ?_ (by rw [List.size_toArray, List.size_toArray, sizeLine_eq]; omega)
    intro h5 F5 N5
    dsimp only at N5
    (repeat' ((fail_if_success first | (with_reducible show wpAny _ _ (PySem.eval (PySem.Expr.ListComp _ _ _ _) _) _ _ _) | (with_reducible show wpAny _ _ (subscriptTail _ _ (Value.ref _) (Value.int _ _)) _ _ _) | (with_reducible show wpAny _ _ (call (Value.ref _) _) _ _ _) | (with_reducible show LCg.CompSrc _ _ _ _ _ _ _ _ _ _ _ _ _ _) | (with_reducible show LCg.FinA _ _ _ _ _ _ _ _) | (with_reducible show wpAny _ _ (PySem.binaryOp _ (Value.ref _) (Value.ref _)) _ _ _) | (with_reducible show wpAny _ _ (PySem.compareOp _ (Value.ref _) (Value.ref _)) _ _ _) | (with_reducible show LCg.CompEnd _ _ _ _ _ _ _ _ _ _ _ _ _ _) | (with_reducible show LCg.FinE _ _ _ _ _ _ _)); first | (k_unfold; (try dsimp only)) | walk1 | (dsimp only; walk1)))
    refine' due_spec _ _ _ _ _ _ _ _ _ _ _ _ _ _ _ _ _ _ _ _ _ _  rp _ f g (X1 ++ bitsOf z i) _ _ ?B ?F ?X ?N ?T ?hk ?hP ?hX ?hl ?hb ?hd ?hu ?hr
    case B => k_asm
    case F => k_asm
    case X => k_asm
    case T => k_asm
    case N => exact N5
    case hk => exact rfl
    case hP => exact hP.mono fun q hq => .tail _ (.tail _ (.tail _ (.tail _ (.tail _ (.tail _ (n4 q hq))))))
    case hX => exact ⟨_, _, .head _, ints_app hx2 hz2⟩
    case hl => rw [List.length_append, bits_len]; omega
    case hb => intro b hb; rcases List.mem_append.mp hb with hb | hb; exact hXb b hb; exact bits_lt b hb
    case hd => ktr_room
    case hu => ktr_units
    intro tk6 h6 tk6' F6 N6
    exact CompEnd.same F6 (fun q hq => N6 q (.tail _ (.tail _ (.tail _ hq)))) off ⟨⟨l ++ [(_, _)], strValues_snoc _ _ _, by rw [List.map_append, hl, List.range_succ, List.map_append, List.map_append]; rfl⟩, hsub, hnw⟩
  · intro g1 ys news1 hK hsub hnw
    intro D h1 tk1 F9 N9 o1
    obtain ⟨l, rfl, hl⟩ := hK
    rw [hlz2] at hl
    have hl' : l.map (·.1) = (rowsOf z).map (fun Z => rowText f g (X1 ++ Z)) := hl
    (repeat' ((fail_if_success first | (with_reducible show wpAny _ _ (PySem.eval (PySem.Expr.ListComp _ _ _ _) _) _ _ _) | (with_reducible show wpAny _ _ (subscriptTail _ _ (Value.ref _) (Value.int _ _)) _ _ _) | (with_reducible show wpAny _ _ (call (Value.ref _) _) _ _ _) | (with_reducible show LCg.CompSrc _ _ _ _ _ _ _ _ _ _ _ _ _ _) | (with_reducible show LCg.FinA _ _ _ _ _ _ _ _) | (with_reducible show wpAny _ _ (PySem.binaryOp _ (Value.ref _) (Value.ref _)) _ _ _) | (with_reducible show wpAny _ _ (PySem.compareOp _ (Value.ref _) (Value.ref _)) _ _ _) | (with_reducible show LCg.CompEnd _ _ _ _ _ _ _ _ _ _ _ _ _ _) | (with_reducible show LCg.FinE _ _ _ _ _ _ _)); first | (k_unfold; (try dsimp only)) | walk1 | (dsimp only; walk1)))
    refine ne_dataH (reads_texts N9 (l := la) (.tail _ (hsub _ (cells_rest _ hA)))) (reads_texts N9 (l := l) (.head _)) (texts_shaped ?_) (texts_shaped ?_) (by ke_room) ?_
    · rw [hla]; intro x hx; obtain ⟨Z, _, rfl⟩ := List.mem_map.mp hx; exact rowText_ok _ _ _
    · rw [hl']; intro x hx; obtain ⟨Z, _, rfl⟩ := List.mem_map.mp hx; exact rowText_ok _ _ _
    rw [hla, hl', texts_eqv]
    have N10 : News g₀ L h1 (cellsL L c5 c4 c3 c2 c1 t8 t6 rest) := fun q hq => N9 q (.tail _ (hsub q hq))
    clear N9 N
    (repeat' ((fail_if_success first | (with_reducible show wpAny _ _ (PySem.eval (PySem.Expr.ListComp _ _ _ _) _) _ _ _) | (with_reducible show wpAny _ _ (subscriptTail _ _ (Value.ref _) (Value.int _ _)) _ _ _) | (with_reducible show wpAny _ _ (call (Value.ref _) _) _ _ _) | (with_reducible show LCg.CompSrc _ _ _ _ _ _ _ _ _ _ _ _ _ _) | (with_reducible show LCg.FinA _ _ _ _ _ _ _ _) | (with_reducible show wpAny _ _ (PySem.binaryOp _ (Value.ref _) (Value.ref _)) _ _ _) | (with_reducible show wpAny _ _ (PySem.compareOp _ (Value.ref _) (Value.ref _)) _ _ _) | (with_reducible show LCg.CompEnd _ _ _ _ _ _ _ _ _ _ _ _ _ _) | (with_reducible show LCg.FinE _ _ _ _ _ _ _)); first | (k_unfold; (try dsimp only)) | walk1 | (dsimp only; walk1)))
    rename (Fr _ _ _ _) => F11
    rename (News _ _ _ _) => N11
    exact next _ _ (by rw [map_one hm]; exact F11) N11
set_option maxHeartbeats 1000000 in
theorem st_ret (w : World) (p : Program) (loose : List Str) (mean : ExcName → Option Value) (mg mb : Str → Option Value) (g₀ : Heap) (L fa : Addr) (cd : Value) (m : Str → Option Value) (rest : List (Addr × Obj)) (c5 c4 c3 c2 c1 : Obj) (t8 t6 : Array Value) (s : Shared) (Q : Flow → Shared → Prop)
    (X : (hd.heap_39 w.params).In g₀) (K : Below callerA g₀ [] g₀) (T : Top p loose mean mg mb g₀) (l0 : @LT.lt Nat _ 82 L ∧ @LT.lt Nat _ 65 L) (C8 : CodeHd g₀ 86 82) (C6 : CodeHd g₀ 69 65)
    (F : Fr g₀ L s.heap m) (N : News g₀ L s.heap (cellsL L c5 c4 c3 c2 c1 t8 t6 rest)) (S : LSep L rest) (k5 : isC c5) (k4 : isC c4) (k3 : isC c3) (k2 : isC c2) (k1 : isC c1)
    (z : Nat) (hz : z < 4) (rm rp rl ra : Addr) (f g : Nat) (X1 : List Nat) (ysm : List Value) (hm : m "middles" = some (.ref rm)) (hM : (rm, LCg.lst ysm) ∈ rest) (hMs : RowsIn rest ysm (rowsOf z)) (e1 : c1.data = .cell (some (.ref rp))) (hP : PairAt rest rp f g)
    (e2 : c3.data = .cell (some (.ref rl))) (hX : RowAt rest rl X1) (hXl : X1.length ≤ 3) (hXb : ∀ b ∈ X1, b < 2) (la : List (Str × Tok)) (e4 : c5.data = .cell (some (.ref ra))) (hA : (ra, LCg.lst (strValues la)) ∈ rest) (hla : la.map (·.1) = (rowsOf z).map (fun Z => rowText f g (Z ++ X1))) (p1 p2 p3 p4 p5 p6 p7 p8 p9 pa pb pc pd pe : Pos)
    (next : ∀ h tk, Fr g₀ L h m → News g₀ L h (cellsL L c5 c4 c3 c2 c1 t8 t6 rest) → Q (.ret (.bool true)) { s with heap := h, toks := tk }) :
    wpAny (model prg w) (lawA L fa cd) (PySem.exec (.Return (some (.Compare (.Name "after" p1) [.Eq] [.ListComp (.Call (.Name "_law_due" p2) [.Name "both" p3, .BinOp (.Name "middle" p4) .Add (.Name "right" p5) p6] [] p7) [⟨.Name "middle" p8, .Name "middles" p9, [], 0⟩] { kind := .function, names := [(".0", .local), ("middle", .local), ("_law_due", .globalImplicit), ("both", .free), ("right", .free)], isGenerator := false, isCoroutine := false } pa] pb)) pc) (lawEnv L fa cd)) Q (fun _ _ => False) s := by
  have : (PySem.Challenge.rw_re0071_01, hd.heap_39) = (PySem.Challenge.rw_re0071_01, hd.heap_39) := by
    k_fill
    rfl
  clear this
  rw [map_one hm] at F
  have hz4 : z = 0 ∨ z = 1 ∨ z = 2 ∨ z = 3 := by omega
  have hlz2 : ysm.length = 2 ^ z := by rw [hMs.len, rows_len]
  have hz8 : 2 ^ z ≤ 8 := by rcases hz4 with rfl | rfl | rfl | rfl <;> decide
  refine Classical.byContradiction fun hgo9 => ?_
  obtain ⟨xs, ex, hx1, hx2, hx3⟩ := hX.len
  refine hgo9 ?_
  clear hgo9
  (repeat' ((fail_if_success first | (with_reducible show wpAny _ _ (PySem.eval (PySem.Expr.ListComp _ _ _ _) _) _ _ _) | (with_reducible show wpAny _ _ (subscriptTail _ _ (Value.ref _) (Value.int _ _)) _ _ _) | (with_reducible show wpAny _ _ (call (Value.ref _) _) _ _ _) | (with_reducible show LCg.CompSrc _ _ _ _ _ _ _ _ _ _ _ _ _ _) | (with_reducible show LCg.FinA _ _ _ _ _ _ _ _) | (with_reducible show wpAny _ _ (PySem.binaryOp _ (Value.ref _) (Value.ref _)) _ _ _) | (with_reducible show wpAny _ _ (PySem.compareOp _ (Value.ref _) (Value.ref _)) _ _ _) | (with_reducible show LCg.CompEnd _ _ _ _ _ _ _ _ _ _ _ _ _ _) | (with_reducible show LCg.FinE _ _ _ _ _ _ _)); first | (k_unfold; (try dsimp only)) | walk1 | (dsimp only; walk1)))
  refine LCg.ListComp_U (F₀ := by k_asm) (by with_unfolding_all rfl) (by decide) (by rfl) (by decide) (by rfl) ?_
  (repeat' ((fail_if_success first | (with_reducible show wpAny _ _ (PySem.eval (PySem.Expr.ListComp _ _ _ _) _) _ _ _) | (with_reducible show wpAny _ _ (subscriptTail _ _ (Value.ref _) (Value.int _ _)) _ _ _) | (with_reducible show wpAny _ _ (call (Value.ref _) _) _ _ _) | (with_reducible show LCg.CompSrc _ _ _ _ _ _ _ _ _ _ _ _ _ _) | (with_reducible show LCg.FinA _ _ _ _ _ _ _ _) | (with_reducible show wpAny _ _ (PySem.binaryOp _ (Value.ref _) (Value.ref _)) _ _ _) | (with_reducible show wpAny _ _ (PySem.compareOp _ (Value.ref _) (Value.ref _)) _ _ _) | (with_reducible show LCg.CompEnd _ _ _ _ _ _ _ _ _ _ _ _ _ _) | (with_reducible show LCg.FinE _ _ _ _ _ _ _)); first | (k_unfold; (try dsimp only)) | walk1 | (dsimp only; walk1)))
  refine CompSrc.inv_list (vs := ysm) (e := ysm.length) (fun i ys _ => ∃ l : List (Str × Tok), ys = strValues l ∧ l.map (·.1) = ((List.range i).map (bitsOf z)).map (fun Z => rowText f g (Z ++ X1))) rfl (by k_asm) N (cells_rest _ hM) (by omega) ⟨[], rfl, rfl⟩ ?_ ?_
  · intro i ys news1 v I oI C oC D m₂ h tk E' hi hK hsub hnw hv hC hx F3 N3 off n1 n2 n3
    refine Classical.byContradiction fun hgo9 => ?_
    obtain ⟨a1, row, rfl, hrow, hra⟩ := hMs.at hv
    refine hgo9 ?_
    clear hgo9
    have hrow2 : row = bitsOf z i := by
      rw [rows_at (by omega)] at hrow; exact (Option.some.inj hrow).symm
    subst hrow2
    refine Classical.byContradiction fun hgo9 => ?_
    obtain ⟨zs, ez, hz1, hz2, hz3⟩ := hra.len
    refine hgo9 ?_
    clear hgo9
    rw [bits_len] at hz3
    obtain ⟨l, rfl, hl⟩ := hK
    have n4 : ∀ q ∈ rest, q ∈ news1 := fun q hq => hsub q (cells_rest q hq)
    have N4 := news_cons (news_cons N3 (.tail _ (.tail _ (.tail _ (hsub _ (.tail _ (.tail _ (.tail _ (.tail _ (.head _)))))))))) (.tail _ (.tail _ (.tail _ (.tail _ (hsub _ (.tail _ (.tail _ (.head _))))))))
    (repeat' ((fail_if_success first | (with_reducible show wpAny _ _ (PySem.eval (PySem.Expr.ListComp _ _ _ _) _) _ _ _) | (with_reducible show wpAny _ _ (subscriptTail _ _ (Value.ref _) (Value.int _ _)) _ _ _) | (with_reducible show wpAny _ _ (call (Value.ref _) _) _ _ _) | (with_reducible show LCg.CompSrc _ _ _ _ _ _ _ _ _ _ _ _ _ _) | (with_reducible show LCg.FinA _ _ _ _ _ _ _ _) | (with_reducible show wpAny _ _ (PySem.binaryOp _ (Value.ref _) (Value.ref _)) _ _ _) | (with_reducible show wpAny _ _ (PySem.compareOp _ (Value.ref _) (Value.ref _)) _ _ _) | (with_reducible show LCg.CompEnd _ _ _ _ _ _ _ _ _ _ _ _ _ _) | (with_reducible show LCg.FinE _ _ _ _ _ _ _)); first | (k_unfold; (try dsimp only)) | walk1 | (dsimp only; walk1)))
    refine add_arrays (its := zs.toArray) (its2 := xs.toArray) (by k_asm) N4 ⟨_, (N4 _ (.tail _ (.tail _ (.tail _ (.tail _ (.tail _ (n4 _ hz1))))))).1, rfl, _, rfl⟩ ⟨_, (N4 _ (.tail _ (.tail _ (.tail _ (.tail _ (.tail _ (n4 _ hx1))))))).1, rfl, _, rfl⟩ ?_ (by rw [List.size_toArray, List.size_toArray, sizeLine_eq]; omega)
    intro h5 F5 N5
    dsimp only at N5
    (repeat' ((fail_if_success first | (with_reducible show wpAny _ _ (PySem.eval (PySem.Expr.ListComp _ _ _ _) _) _ _ _) | (with_reducible show wpAny _ _ (subscriptTail _ _ (Value.ref _) (Value.int _ _)) _ _ _) | (with_reducible show wpAny _ _ (call (Value.ref _) _) _ _ _) | (with_reducible show LCg.CompSrc _ _ _ _ _ _ _ _ _ _ _ _ _ _) | (with_reducible show LCg.FinA _ _ _ _ _ _ _ _) | (with_reducible show wpAny _ _ (PySem.binaryOp _ (Value.ref _) (Value.ref _)) _ _ _) | (with_reducible show wpAny _ _ (PySem.compareOp _ (Value.ref _) (Value.ref _)) _ _ _) | (with_reducible show LCg.CompEnd _ _ _ _ _ _ _ _ _ _ _ _ _ _) | (with_reducible show LCg.FinE _ _ _ _ _ _ _)); first | (k_unfold; (try dsimp only)) | walk1 | (dsimp only; walk1)))
    refine' due_spec _ _ _ _ _ _ _ _ _ _ _ _ _ _ _ _ _ _ _ _ _ _  rp _ f g (bitsOf z i ++ X1) _ _ ?B ?F ?X ?N ?T ?hk ?hP ?hX ?hl ?hb ?hd ?hu ?hr
    case B => k_asm
    case F => k_asm
    case X => k_asm
    case T => k_asm
    case N => exact N5
    case hk => exact rfl
    case hP => exact hP.mono fun q hq => .tail _ (.tail _ (.tail _ (.tail _ (.tail _ (.tail _ (n4 q hq))))))
    case hX => exact ⟨_, _, .head _, ints_app hz2 hx2⟩
    case hl => rw [List.length_append, bits_len]; omega
    case hb => intro b hb; rcases List.mem_append.mp hb with hb | hb; exact bits_lt b hb; exact hXb b hb
    case hd => ktr_room
    case hu => ktr_units
    intro tk6 h6 tk6' F6 N6
    exact CompEnd.same F6 (fun q hq => N6 q (.tail _ (.tail _ (.tail _ hq)))) off ⟨⟨l ++ [(_, _)], strValues_snoc _ _ _, by rw [List.map_append, hl, List.range_succ, List.map_append, List.map_append]; rfl⟩, hsub, hnw⟩
  · intro g1 ys news1 hK hsub hnw
    intro D h1 tk1 F9 N9 o1
    obtain ⟨l, rfl, hl⟩ := hK
    rw [hlz2] at hl
    have hl' : l.map (·.1) = (rowsOf z).map (fun Z => rowText f g (Z ++ X1)) := hl
    (repeat' ((fail_if_success first | (with_reducible show wpAny _ _ (PySem.eval (PySem.Expr.ListComp _ _ _ _) _) _ _ _) | (with_reducible show wpAny _ _ (subscriptTail _ _ (Value.ref _) (Value.int _ _)) _ _ _) | (with_reducible show wpAny _ _ (call (Value.ref _) _) _ _ _) | (with_reducible show LCg.CompSrc _ _ _ _ _ _ _ _ _ _ _ _ _ _) | (with_reducible show LCg.FinA _ _ _ _ _ _ _ _) | (with_reducible show wpAny _ _ (PySem.binaryOp _ (Value.ref _) (Value.ref _)) _ _ _) | (with_reducible show wpAny _ _ (PySem.compareOp _ (Value.ref _) (Value.ref _)) _ _ _) | (with_reducible show LCg.CompEnd _ _ _ _ _ _ _ _ _ _ _ _ _ _) | (with_reducible show LCg.FinE _ _ _ _ _ _ _)); first | (k_unfold; (try dsimp only)) | walk1 | (dsimp only; walk1)))
    refine eq_dataH (reads_texts N9 (l := la) (.tail _ (hsub _ (cells_rest _ hA)))) (reads_texts N9 (l := l) (.head _)) (texts_shaped ?_) (texts_shaped ?_) (by ke_room) ?_
    · rw [hla]; intro x hx; obtain ⟨Z, _, rfl⟩ := List.mem_map.mp hx; exact rowText_ok _ _ _
    · rw [hl']; intro x hx; obtain ⟨Z, _, rfl⟩ := List.mem_map.mp hx; exact rowText_ok _ _ _
    rw [hla, hl', texts_eqv]
    have N10 : News g₀ L h1 (cellsL L c5 c4 c3 c2 c1 t8 t6 rest) := fun q hq => N9 q (.tail _ (hsub q hq))
    clear N9 N
    (repeat' ((fail_if_success first | (with_reducible show wpAny _ _ (PySem.eval (PySem.Expr.ListComp _ _ _ _) _) _ _ _) | (with_reducible show wpAny _ _ (subscriptTail _ _ (Value.ref _) (Value.int _ _)) _ _ _) | (with_reducible show wpAny _ _ (call (Value.ref _) _) _ _ _) | (with_reducible show LCg.CompSrc _ _ _ _ _ _ _ _ _ _ _ _ _ _) | (with_reducible show LCg.FinA _ _ _ _ _ _ _ _) | (with_reducible show wpAny _ _ (PySem.binaryOp _ (Value.ref _) (Value.ref _)) _ _ _) | (with_reducible show wpAny _ _ (PySem.compareOp _ (Value.ref _) (Value.ref _)) _ _ _) | (with_reducible show LCg.CompEnd _ _ _ _ _ _ _ _ _ _ _ _ _ _) | (with_reducible show LCg.FinE _ _ _ _ _ _ _)); first | (k_unfold; (try dsimp only)) | walk1 | (dsimp only; walk1)))
    rename (Fr _ _ _ _) => F11
    rename (News _ _ _ _) => N11
    exact next _ _ (by rw [map_one hm]; exact F11) N11
end

-- part L8
section
theorem rowText_len (f g : Nat) (row : List Nat) (h : row.length ≤ 6) : (rowText f g row).length ≤ 1000 := by
  unfold rowText
  have hl : ((row.map (pk f g)).map txt).length ≤ 6 := by simpa using h
  have hb : ∀ x ∈ (row.map (pk f g)).map txt, x.length ≤ 12 := by
    intro x hx; obtain ⟨y, _, rfl⟩ := List.mem_map.mp hx; exact txt_len y
  generalize (row.map (pk f g)).map txt = l at *
  cases l with
  | nil => show (0 : Nat) ≤ _; omega
  | cons x l =>
    have h1 := glue_fold (sep := (Str.ofString ", ").cps) (b := 12) l x.cps fun y hy => hb y (.tail _ hy)
    have h0 : x.cps.size ≤ 12 := hb x (.head _)
    have h2 : (Str.ofString ", ").cps.size = 2 := by decide +kernel
    rw [h2] at h1
    rw [List.length_cons] at hl
    show (l.foldl (fun acc p => acc ++ (Str.ofString ", ").cps ++ p.cps) x.cps).size ≤ _
    omega
theorem news_65 {g h : Heap} {L l : Addr} {c5 c4 c3 c2 c1 ol : Obj} {t8 t6 : Array Value} {rest : List (Addr × Obj)} (N : News g L h ((l, ol) :: cellsL L c5 c4 c3 c2 c1 t8 t6 rest)) :
    News g L h ((65, tabObj t6) :: (l, ol) :: (L + 1 + 1 + 1 + 1 + 1, c5) :: (L + 1 + 1 + 1 + 1, c4) :: (L + 1 + 1 + 1, c3) :: (L + 1 + 1, c2) :: (L + 1, c1) :: (82, tabObj t8) :: rest) := fun q hq => N q (by
  simp only [cellsL, List.mem_cons] at hq ⊢
  rcases hq with h | h | h | h | h | h | h | h | h <;> simp [h])
theorem base_65 {L : Addr} {c5 c4 c3 c2 c1 o8 : Obj} {rest : List (Addr × Obj)} (l0 : @LT.lt Nat _ 82 L ∧ @LT.lt Nat _ 65 L) (S : LSep L rest) : ∀ q ∈ (L + 1 + 1 + 1 + 1 + 1, c5) :: (L + 1 + 1 + 1 + 1, c4) :: (L + 1 + 1 + 1, c3) :: (L + 1 + 1, c2) :: (L + 1, c1) :: (82, o8) :: rest, q.1 ≠ 65 := by
  intro q hq
  simp only [List.mem_cons] at hq
  rcases hq with rfl | rfl | rfl | rfl | rfl | rfl | hq <;> first | exact S.r65 q hq | (have := l0.2; show @Ne Nat _ _; dsimp only; omega) | decide
theorem back_65 {g h : Heap} {L : Addr} {c5 c4 c3 c2 c1 : Obj} {t8 t6 : Array Value} {rest news all : List (Addr × Obj)} (N : News g L h all) (h6 : (65, tabObj t6) ∈ all) (hn : ∀ q ∈ news, q ∈ all) (hs : ∀ q ∈ (L + 1 + 1 + 1 + 1 + 1, c5) :: (L + 1 + 1 + 1 + 1, c4) :: (L + 1 + 1 + 1, c3) :: (L + 1 + 1, c2) :: (L + 1, c1) :: (82, tabObj t8) :: rest, q ∈ news) :
    News g L h (cellsL L c5 c4 c3 c2 c1 t8 t6 rest) := fun q hq => by
  simp only [cellsL, List.mem_cons] at hq
  have z : q = (65, tabObj t6) ∨ q ∈ (L + 1 + 1 + 1 + 1 + 1, c5) :: (L + 1 + 1 + 1 + 1, c4) :: (L + 1 + 1 + 1, c3) :: (L + 1 + 1, c2) :: (L + 1, c1) :: (82, tabObj t8) :: rest := by
    simp only [List.mem_cons]
    rcases hq with h | h | h | h | h | h | h | h <;> simp [h]
  rcases z with rfl | z
  · exact N _ h6
  · exact N _ (hn _ (hs _ z))
set_option maxHeartbeats 1000000 in
theorem st_if3 (w : World) (p : Program) (loose : List Str) (mean : ExcName → Option Value) (mg mb : Str → Option Value) (g₀ : Heap) (L fa : Addr) (cd : Value) (m : Str → Option Value) (rest : List (Addr × Obj)) (c5 c4 c3 c2 c1 : Obj) (t8 t6 : Array Value) (s : Shared) (Q : Flow → Shared → Prop)
    (X : (hd.heap_39 w.params).In g₀) (K : Below callerA g₀ [] g₀) (T : Top p loose mean mg mb g₀) (l0 : @LT.lt Nat _ 82 L ∧ @LT.lt Nat _ 65 L) (C8 : CodeHd g₀ 86 82) (C6 : CodeHd g₀ 69 65)
    (F : Fr g₀ L s.heap m) (N : News g₀ L s.heap (cellsL L c5 c4 c3 c2 c1 t8 t6 rest)) (S : LSep L rest) (k5 : isC c5) (k4 : isC c4) (k3 : isC c3) (k2 : isC c2) (k1 : isC c1)
    (z W : Nat) (tw : Tok) (hz : z < 4) (hW : W < 2 ^ z) (rm rp rr rb : Addr) (f g : Nat) (Y1 : List Nat) (ysm : List Value) (hm : m "middles" = some (.ref rm)) (hm2 : m "wanted" = some (.int (W : Int) tw)) (hM : (rm, LCg.lst ysm) ∈ rest) (hMs : RowsIn rest ysm (rowsOf z)) (e1 : c1.data = .cell (some (.ref rp))) (hP : PairAt rest rp f g)
    (e3 : c3.data = .cell (some (.ref rr))) (hY : RowAt rest rr Y1) (hY1 : 1 ≤ Y1.length) (hYl : Y1.length ≤ 3) (hYb : ∀ b ∈ Y1, b < 2) (lb : List (Str × Tok)) (e5 : c5.data = .cell (some (.ref rb))) (hB : (rb, LCg.lst (strValues lb)) ∈ rest) (hlb : lb.map (·.1) = (rowsOf z).map (fun Z => rowText f g (Z ++ Y1))) (hT6 : TabOk 26 49 sq (fun _ => True) rest t6) (p1 p2 p3 p4 p5 p6 p7 p8 p9 pa pb pc pd pe pf pg ph pi pj pq pl pm : Pos)
    (next : ∀ h tk t6', Fr g₀ L h m → News g₀ L h (cellsL L c5 c4 c3 c2 c1 t8 t6' rest) → Q .next { s with heap := h, toks := tk }) :
    wpAny (model prg w) (lawA L fa cd) (PySem.exec (.If (.Compare (.Call (.Name "split_header_words" p1) [.List [.Subscript (.Name "after" p2) (.Name "wanted" p3) p4] p5] [] p6) [.NotEq] [.ListComp (.Subscript (.Subscript (.Name "both" p7) (.Name "k" p8) p9) (.Constant (.int 0) 0 pa) pb) [⟨.Name "k" pc, .BinOp (.Subscript (.Name "middles" pd) (.Name "wanted" pe) pf) .Add (.Name "right" pg) ph, [], 0⟩] { kind := .function, names := [(".0", .local), ("k", .local), ("both", .free)], isGenerator := false, isCoroutine := false } pi] pj) [.Return (some (.Constant (.bool false) 0 pq)) pl] [] pm) (lawEnv L fa cd)) Q (fun _ _ => False) s := by
  w_top off
  have : (PySem.Challenge.rw_re0071_01, hd.heap_39) = (PySem.Challenge.rw_re0071_01, hd.heap_39) := by
    k_fill
    rfl
  clear this
  have em : m = fun y => if y = Str.ofString "middles" then some (.ref rm) else if y = Str.ofString "wanted" then some (.int (W : Int) tw) else m y := by
    funext y; split
    · rename_i e; rw [e]; exact hm
    · split
      · rename_i e; rw [e]; exact hm2
      · rfl
  rw [em] at F
  have hz4 : z = 0 ∨ z = 1 ∨ z = 2 ∨ z = 3 := by omega
  have hz8 : 2 ^ z ≤ 8 := by rcases hz4 with rfl | rfl | rfl | rfl <;> decide
  obtain ⟨tB, hB1⟩ := str_at (i := W) (x := rowText f g (bitsOf z W ++ Y1)) hlb (by rw [List.getElem?_map, rows_at hW]; rfl)
  have hrl : (bitsOf z W ++ Y1).length ≤ 6 := by rw [List.length_append, bits_len]; omega
  have hrb : ∀ b ∈ bitsOf z W ++ Y1, b < 2 := by intro b hb; rcases List.mem_append.mp hb with hb | hb; exact bits_lt b hb; exact hYb b hb
  obtain ⟨n, hn1, hG⟩ := go_text ((bitsOf z W ++ Y1).map (pk f g)) (by intro e; have := congrArg List.length e; simp only [List.length_map, List.length_append, List.length_nil] at this; omega) (by rw [List.length_map]; omega)
  rw [List.length_map] at hn1
  obtain ⟨aW, haW, hRW⟩ := hMs.get (rows_at hW)
  refine Classical.byContradiction fun hgo9 => ?_
  obtain ⟨zs, ez, hz1, hz2, hz3⟩ := hRW.len
  obtain ⟨ys, ey, hy1, hy2, hy3⟩ := hY.len
  refine hgo9 ?_
  clear hgo9
  rw [bits_len] at hz3
  (repeat' ((fail_if_success first | (with_reducible show wpAny _ _ (PySem.eval (PySem.Expr.ListComp _ _ _ _) _) _ _ _) | (with_reducible show wpAny _ _ (subscriptTail _ _ (Value.ref _) (Value.int _ _)) _ _ _) | (with_reducible show wpAny _ _ (call (Value.ref _) _) _ _ _) | (with_reducible show LCg.CompSrc _ _ _ _ _ _ _ _ _ _ _ _ _ _) | (with_reducible show LCg.FinA _ _ _ _ _ _ _ _) | (with_reducible show wpAny _ _ (PySem.binaryOp _ (Value.ref _) (Value.ref _)) _ _ _) | (with_reducible show wpAny _ _ (PySem.compareOp _ (Value.ref _) (Value.ref _)) _ _ _) | (with_reducible show LCg.CompEnd _ _ _ _ _ _ _ _ _ _ _ _ _ _) | (with_reducible show LCg.FinE _ _ _ _ _ _ _)); first | (k_unfold; (try dsimp only)) | walk1 | (dsimp only; walk1)))
  refine item_K (.str (rowText f g (bitsOf z W ++ Y1)) tB) (by k_asm) (cells_rest _ hB) (by omega) (by omega) (by rw [Int.toNat_natCast]; exact hB1) ?_
  (repeat' ((fail_if_success first | (with_reducible show wpAny _ _ (PySem.eval (PySem.Expr.ListComp _ _ _ _) _) _ _ _) | (with_reducible show wpAny _ _ (subscriptTail _ _ (Value.ref _) (Value.int _ _)) _ _ _) | (with_reducible show wpAny _ _ (call (Value.ref _) _) _ _ _) | (with_reducible show LCg.CompSrc _ _ _ _ _ _ _ _ _ _ _ _ _ _) | (with_reducible show LCg.FinA _ _ _ _ _ _ _ _) | (with_reducible show wpAny _ _ (PySem.binaryOp _ (Value.ref _) (Value.ref _)) _ _ _) | (with_reducible show wpAny _ _ (PySem.compareOp _ (Value.ref _) (Value.ref _)) _ _ _) | (with_reducible show LCg.CompEnd _ _ _ _ _ _ _ _ _ _ _ _ _ _) | (with_reducible show LCg.FinE _ _ _ _ _ _ _)); first | (k_unfold; (try dsimp only)) | walk1 | (dsimp only; walk1)))
  rename (News _ _ _ (_ :: cellsL _ _ _ _ _ _ _ _ _)) => N2
  rename (Fr _ _ _ _) => F2
  rename (_ ∧ _) => l2
  rename_i l1 _
  have hb65 := base_65 (c5 := c5) (c4 := c4) (c3 := c3) (c2 := c2) (c1 := c1) (o8 := tabObj t8) l0 S
  have hlen : (rowText f g (bitsOf z W ++ Y1)).length ≤ 1000 := rowText_len f g _ hrl
  refine' split_spec _ _ _ _ _ _ _ _ _ _ _ _ _ _ _ _ _ _ _ _ ((L + 1 + 1 + 1 + 1 + 1, c5) :: (L + 1 + 1 + 1 + 1, c4) :: (L + 1 + 1 + 1, c3) :: (L + 1 + 1, c2) :: (L + 1, c1) :: (82, tabObj t8) :: rest) _ _ 0 n (rowText f g (bitsOf z W ++ Y1)) tB (((bitsOf z W ++ Y1).map (pk f g)).map wd) t6 _ _ ?B ?F ?X ?N ?T C6 ?hk ?hG ?hn ?hT ?hne ?hl65 hlen ?hd ?hu ?hr
  case B => k_asm
  case F => k_asm
  case X => k_asm
  case T => k_asm
  case N => exact news_65 N2
  case hk => exact rfl
  case hG => exact hG
  case hn => omega
  case hT => exact hT6.mono fun q hq => .tail _ (.tail _ (.tail _ (.tail _ (.tail _ (.tail _ hq)))))
  case hne => exact hb65
  case hl65 => exact Nat.ne_of_gt l2.2.2.2.2.2.2.1
  case hd => ktr_room
  case hu => ktr_units
  intro r h7 tk7 res eR ps' news7 F7 N7 hs7 hWs hT7 hne7
  have n7 : ∀ q ∈ rest, q ∈ news7 := fun q hq => hs7 q (.tail _ (.tail _ (.tail _ (.tail _ (.tail _ (.tail _ hq))))))
  clear N2 F2 hG
  replace N7 := news_cons (news_cons N7 (.tail _ (.tail _ (hs7 _ (.tail _ (.tail _ (.head _))))))) (.tail _ (.tail _ (.tail _ (hs7 _ (.tail _ (.tail _ (.tail _ (.tail _ (.head _)))))))))
  (repeat' ((fail_if_success first | (with_reducible show wpAny _ _ (PySem.eval (PySem.Expr.ListComp _ _ _ _) _) _ _ _) | (with_reducible show wpAny _ _ (subscriptTail _ _ (Value.ref _) (Value.int _ _)) _ _ _) | (with_reducible show wpAny _ _ (call (Value.ref _) _) _ _ _) | (with_reducible show LCg.CompSrc _ _ _ _ _ _ _ _ _ _ _ _ _ _) | (with_reducible show LCg.FinA _ _ _ _ _ _ _ _) | (with_reducible show wpAny _ _ (PySem.binaryOp _ (Value.ref _) (Value.ref _)) _ _ _) | (with_reducible show wpAny _ _ (PySem.compareOp _ (Value.ref _) (Value.ref _)) _ _ _) | (with_reducible show LCg.CompEnd _ _ _ _ _ _ _ _ _ _ _ _ _ _) | (with_reducible show LCg.FinE _ _ _ _ _ _ _)); first | (k_unfold; (try dsimp only)) | walk1 | (dsimp only; walk1)))
  refine LCg.ListComp_U (F₀ := by k_asm) (by with_unfolding_all rfl) (by decide) (by rfl) (by decide) (by rfl) ?_
  (repeat' ((fail_if_success first | (with_reducible show wpAny _ _ (PySem.eval (PySem.Expr.ListComp _ _ _ _) _) _ _ _) | (with_reducible show wpAny _ _ (subscriptTail _ _ (Value.ref _) (Value.int _ _)) _ _ _) | (with_reducible show wpAny _ _ (call (Value.ref _) _) _ _ _) | (with_reducible show LCg.CompSrc _ _ _ _ _ _ _ _ _ _ _ _ _ _) | (with_reducible show LCg.FinA _ _ _ _ _ _ _ _) | (with_reducible show wpAny _ _ (PySem.binaryOp _ (Value.ref _) (Value.ref _)) _ _ _) | (with_reducible show wpAny _ _ (PySem.compareOp _ (Value.ref _) (Value.ref _)) _ _ _) | (with_reducible show LCg.CompEnd _ _ _ _ _ _ _ _ _ _ _ _ _ _) | (with_reducible show LCg.FinE _ _ _ _ _ _ _)); first | (k_unfold; (try dsimp only)) | walk1 | (dsimp only; walk1)))
  refine item_K (.ref aW) (by k_asm) (.tail _ (.tail _ (.tail _ (.tail _ (n7 _ hM))))) (by omega) (by omega) (by rw [Int.toNat_natCast]; exact haW) ?_
  (repeat' ((fail_if_success first | (with_reducible show wpAny _ _ (PySem.eval (PySem.Expr.ListComp _ _ _ _) _) _ _ _) | (with_reducible show wpAny _ _ (subscriptTail _ _ (Value.ref _) (Value.int _ _)) _ _ _) | (with_reducible show wpAny _ _ (call (Value.ref _) _) _ _ _) | (with_reducible show LCg.CompSrc _ _ _ _ _ _ _ _ _ _ _ _ _ _) | (with_reducible show LCg.FinA _ _ _ _ _ _ _ _) | (with_reducible show wpAny _ _ (PySem.binaryOp _ (Value.ref _) (Value.ref _)) _ _ _) | (with_reducible show wpAny _ _ (PySem.compareOp _ (Value.ref _) (Value.ref _)) _ _ _) | (with_reducible show LCg.CompEnd _ _ _ _ _ _ _ _ _ _ _ _ _ _) | (with_reducible show LCg.FinE _ _ _ _ _ _ _)); first | (k_unfold; (try dsimp only)) | walk1 | (dsimp only; walk1)))
  refine add_arrays (its := zs.toArray) (its2 := ys.toArray) (by k_asm) N7 ⟨_, (N7 _ (.tail _ (.tail _ (.tail _ (.tail _ (n7 _ hz1)))))).1, rfl, _, rfl⟩ ⟨_, (N7 _ (.tail _ (.tail _ (.tail _ (.tail _ (n7 _ hy1)))))).1, rfl, _, rfl⟩ ?_ (by rw [List.size_toArray, List.size_toArray, sizeLine_eq]; omega)
  intro h8 F8 N8
  dsimp only at N8
  have hI8 : IntsAre (zs ++ ys) (asInts (bitsOf z W ++ Y1)) := ints_app hz2 hy2
  have hl8 : (zs ++ ys).length = (bitsOf z W ++ Y1).length := by rw [List.length_append, List.length_append, bits_len]; omega
  generalize bitsOf z W ++ Y1 = row at *
  (repeat' ((fail_if_success first | (with_reducible show wpAny _ _ (PySem.eval (PySem.Expr.ListComp _ _ _ _) _) _ _ _) | (with_reducible show wpAny _ _ (subscriptTail _ _ (Value.ref _) (Value.int _ _)) _ _ _) | (with_reducible show wpAny _ _ (call (Value.ref _) _) _ _ _) | (with_reducible show LCg.CompSrc _ _ _ _ _ _ _ _ _ _ _ _ _ _) | (with_reducible show LCg.FinA _ _ _ _ _ _ _ _) | (with_reducible show wpAny _ _ (PySem.binaryOp _ (Value.ref _) (Value.ref _)) _ _ _) | (with_reducible show wpAny _ _ (PySem.compareOp _ (Value.ref _) (Value.ref _)) _ _ _) | (with_reducible show LCg.CompEnd _ _ _ _ _ _ _ _ _ _ _ _ _ _) | (with_reducible show LCg.FinE _ _ _ _ _ _ _)); first | (k_unfold; (try dsimp only)) | walk1 | (dsimp only; walk1)))
  refine CompSrc.inv_list (vs := zs ++ ys) (e := 0) (fun i ys' _ => WordsIn rest ys' (((row.take i).map (pk f g)).map wd)) rfl (by k_asm) N8 (.head _) (by omega) trivial ?_ ?_
  · intro i ys' news1 v I oI C' oC D m₂ h tk E' hi hK hsub hnw hv hC' hx F3 N3 off k1' k2' k3'
    refine Classical.byContradiction fun hgo9 => ?_
    obtain ⟨b, t, hb1, hb2, hb3⟩ := ints_at (k := i) hI8 (by omega)
    refine hgo9 ?_
    clear hgo9
    rw [hb3] at hv
    cases hv
    have hb := hrb b hb1
    refine Classical.byContradiction fun hgo9 => ?_
    obtain ⟨pa', pb', pe', W1, t1, ee1, W2, t2, ee2, q1, q2, q3, q4, q5⟩ := hP
    refine hgo9 ?_
    clear hgo9
    have n8 : ∀ q ∈ rest, q ∈ (I, oI) :: (C', oC) :: (D, LCg.lst ys') :: news1 := fun q hq => .tail _ (.tail _ (.tail _ (hsub q (.tail _ (.tail _ (.tail _ (.tail _ (.tail _ (n7 q hq)))))))))
    have N4 := news_cons N3 (.tail _ (.tail _ (.tail _ (hsub _ (.tail _ (.head _))))))
    (repeat' ((fail_if_success first | (with_reducible show wpAny _ _ (PySem.eval (PySem.Expr.ListComp _ _ _ _) _) _ _ _) | (with_reducible show wpAny _ _ (subscriptTail _ _ (Value.ref _) (Value.int _ _)) _ _ _) | (with_reducible show wpAny _ _ (call (Value.ref _) _) _ _ _) | (with_reducible show LCg.CompSrc _ _ _ _ _ _ _ _ _ _ _ _ _ _) | (with_reducible show LCg.FinA _ _ _ _ _ _ _ _) | (with_reducible show wpAny _ _ (PySem.binaryOp _ (Value.ref _) (Value.ref _)) _ _ _) | (with_reducible show wpAny _ _ (PySem.compareOp _ (Value.ref _) (Value.ref _)) _ _ _) | (with_reducible show LCg.CompEnd _ _ _ _ _ _ _ _ _ _ _ _ _ _) | (with_reducible show LCg.FinE _ _ _ _ _ _ _)); first | (k_unfold; (try dsimp only)) | walk1 | (dsimp only; walk1)))
    have hb01 : b = 0 ∨ b = 1 := by omega
    rcases hb01 with rfl | rfl
    · refine item_K (.ref pa') (by k_asm) (.tail _ (n8 _ q1)) (by decide) (by decide) rfl ?_
      (repeat' ((fail_if_success first | (with_reducible show wpAny _ _ (PySem.eval (PySem.Expr.ListComp _ _ _ _) _) _ _ _) | (with_reducible show wpAny _ _ (subscriptTail _ _ (Value.ref _) (Value.int _ _)) _ _ _) | (with_reducible show wpAny _ _ (call (Value.ref _) _) _ _ _) | (with_reducible show LCg.CompSrc _ _ _ _ _ _ _ _ _ _ _ _ _ _) | (with_reducible show LCg.FinA _ _ _ _ _ _ _ _) | (with_reducible show wpAny _ _ (PySem.binaryOp _ (Value.ref _) (Value.ref _)) _ _ _) | (with_reducible show wpAny _ _ (PySem.compareOp _ (Value.ref _) (Value.ref _)) _ _ _) | (with_reducible show LCg.CompEnd _ _ _ _ _ _ _ _ _ _ _ _ _ _) | (with_reducible show LCg.FinE _ _ _ _ _ _ _)); first | (k_unfold; (try dsimp only)) | walk1 | (dsimp only; walk1)))
      refine item_K W1 (by k_asm) (.tail _ (n8 _ q2)) (by decide) (by decide) rfl ?_
      (repeat' ((fail_if_success first | (with_reducible show wpAny _ _ (PySem.eval (PySem.Expr.ListComp _ _ _ _) _) _ _ _) | (with_reducible show wpAny _ _ (subscriptTail _ _ (Value.ref _) (Value.int _ _)) _ _ _) | (with_reducible show wpAny _ _ (call (Value.ref _) _) _ _ _) | (with_reducible show LCg.CompSrc _ _ _ _ _ _ _ _ _ _ _ _ _ _) | (with_reducible show LCg.FinA _ _ _ _ _ _ _ _) | (with_reducible show wpAny _ _ (PySem.binaryOp _ (Value.ref _) (Value.ref _)) _ _ _) | (with_reducible show wpAny _ _ (PySem.compareOp _ (Value.ref _) (Value.ref _)) _ _ _) | (with_reducible show LCg.CompEnd _ _ _ _ _ _ _ _ _ _ _ _ _ _) | (with_reducible show LCg.FinE _ _ _ _ _ _ _)); first | (k_unfold; (try dsimp only)) | walk1 | (dsimp only; walk1)))
      exact CompEnd.same (by k_asm) (fun q hq => N4 q (.tail _ hq)) off ⟨words_step hK hb2 q4, hsub, hnw⟩
    · refine item_K (.ref pb') (by k_asm) (.tail _ (n8 _ q1)) (by decide) (by decide) rfl ?_
      (repeat' ((fail_if_success first | (with_reducible show wpAny _ _ (PySem.eval (PySem.Expr.ListComp _ _ _ _) _) _ _ _) | (with_reducible show wpAny _ _ (subscriptTail _ _ (Value.ref _) (Value.int _ _)) _ _ _) | (with_reducible show wpAny _ _ (call (Value.ref _) _) _ _ _) | (with_reducible show LCg.CompSrc _ _ _ _ _ _ _ _ _ _ _ _ _ _) | (with_reducible show LCg.FinA _ _ _ _ _ _ _ _) | (with_reducible show wpAny _ _ (PySem.binaryOp _ (Value.ref _) (Value.ref _)) _ _ _) | (with_reducible show wpAny _ _ (PySem.compareOp _ (Value.ref _) (Value.ref _)) _ _ _) | (with_reducible show LCg.CompEnd _ _ _ _ _ _ _ _ _ _ _ _ _ _) | (with_reducible show LCg.FinE _ _ _ _ _ _ _)); first | (k_unfold; (try dsimp only)) | walk1 | (dsimp only; walk1)))
      refine item_K W2 (by k_asm) (.tail _ (n8 _ q3)) (by decide) (by decide) rfl ?_
      (repeat' ((fail_if_success first | (with_reducible show wpAny _ _ (PySem.eval (PySem.Expr.ListComp _ _ _ _) _) _ _ _) | (with_reducible show wpAny _ _ (subscriptTail _ _ (Value.ref _) (Value.int _ _)) _ _ _) | (with_reducible show wpAny _ _ (call (Value.ref _) _) _ _ _) | (with_reducible show LCg.CompSrc _ _ _ _ _ _ _ _ _ _ _ _ _ _) | (with_reducible show LCg.FinA _ _ _ _ _ _ _ _) | (with_reducible show wpAny _ _ (PySem.binaryOp _ (Value.ref _) (Value.ref _)) _ _ _) | (with_reducible show wpAny _ _ (PySem.compareOp _ (Value.ref _) (Value.ref _)) _ _ _) | (with_reducible show LCg.CompEnd _ _ _ _ _ _ _ _ _ _ _ _ _ _) | (with_reducible show LCg.FinE _ _ _ _ _ _ _)); first | (k_unfold; (try dsimp only)) | walk1 | (dsimp only; walk1)))
      exact CompEnd.same (by k_asm) (fun q hq => N4 q (.tail _ hq)) off ⟨words_step hK hb2 q5, hsub, hnw⟩
  · intro g1 ys' news1 hK hsub hnw
    intro D h1 tk1 F9 N9 o1
    rw [hl8, List.take_length] at hK
    have m7 : ∀ q ∈ news7, q ∈ (D, LCg.lst ys') :: news1 := fun q hq => .tail _ (hsub q (.tail _ (.tail _ (.tail _ (.tail _ (.tail _ hq))))))
    obtain ⟨as1, R1⟩ := reads_words_list N9 (r := r) (vs := res) (e := eR) (.tail _ (hsub _ (.tail _ (.tail _ (.tail _ (.head _)))))) (hWs.mono m7)
    obtain ⟨as2, R2⟩ := reads_words_list N9 (r := D) (vs := ys') (e := ys'.length) (.head _) (hK.mono fun q hq => m7 q (n7 q hq))
    (repeat' ((fail_if_success first | (with_reducible show wpAny _ _ (PySem.eval (PySem.Expr.ListComp _ _ _ _) _) _ _ _) | (with_reducible show wpAny _ _ (subscriptTail _ _ (Value.ref _) (Value.int _ _)) _ _ _) | (with_reducible show wpAny _ _ (call (Value.ref _) _) _ _ _) | (with_reducible show LCg.CompSrc _ _ _ _ _ _ _ _ _ _ _ _ _ _) | (with_reducible show LCg.FinA _ _ _ _ _ _ _ _) | (with_reducible show wpAny _ _ (PySem.binaryOp _ (Value.ref _) (Value.ref _)) _ _ _) | (with_reducible show wpAny _ _ (PySem.compareOp _ (Value.ref _) (Value.ref _)) _ _ _) | (with_reducible show LCg.CompEnd _ _ _ _ _ _ _ _ _ _ _ _ _ _) | (with_reducible show LCg.FinE _ _ _ _ _ _ _)); first | (k_unfold; (try dsimp only)) | walk1 | (dsimp only; walk1)))
    refine ne_dataH R1 R2 (words_shaped _) (words_shaped _) (by ke_room) ?_
    rw [words_eqv]
    have N10 : News g₀ L h1 (cellsL L c5 c4 c3 c2 c1 t8 ps' rest) := back_65 N9 (.tail _ (hsub _ (.tail _ (.tail _ (.tail _ (.tail _ (.head _))))))) m7 hs7
    clear N9 N8 N7 R1 R2
    (repeat' ((fail_if_success first | (with_reducible show wpAny _ _ (PySem.eval (PySem.Expr.ListComp _ _ _ _) _) _ _ _) | (with_reducible show wpAny _ _ (subscriptTail _ _ (Value.ref _) (Value.int _ _)) _ _ _) | (with_reducible show wpAny _ _ (call (Value.ref _) _) _ _ _) | (with_reducible show LCg.CompSrc _ _ _ _ _ _ _ _ _ _ _ _ _ _) | (with_reducible show LCg.FinA _ _ _ _ _ _ _ _) | (with_reducible show wpAny _ _ (PySem.binaryOp _ (Value.ref _) (Value.ref _)) _ _ _) | (with_reducible show wpAny _ _ (PySem.compareOp _ (Value.ref _) (Value.ref _)) _ _ _) | (with_reducible show LCg.CompEnd _ _ _ _ _ _ _ _ _ _ _ _ _ _) | (with_reducible show LCg.FinE _ _ _ _ _ _ _)); first | (k_unfold; (try dsimp only)) | walk1 | (dsimp only; walk1)))
    rename (Fr _ _ _ _) => F11
    rename (News _ _ _ _) => N11
    exact next _ _ ps' (by rw [em]; exact F11) N11
end

-- part Fin
section
/-- how the law ends -/
def LawEnd (g₀ : Heap) (L : Addr) (s₁ : Shared) (f : Flow) (s' : Shared) : Prop :=
  f = .ret (.bool true) ∧ ∃ h tk a b rest m', s' = { s₁ with heap := h, toks := tk } ∧ Fr g₀ L h m' ∧ News g₀ L h ((82, tabObj a) :: (65, tabObj b) :: rest)
theorem law_post {M : Model} {A : Around} {T : Sem Flow} {s : Shared} {Q : Flow → Shared → Prop} {E : Value → Shared → Prop} (P : Flow → Shared → Prop) (h : wpAny M A T P (fun _ _ => False) s) (hQ : ∀ f s', P f s' → Q f s') : wpAny M A T Q E s :=
  wpAny_mono h hQ fun _ _ x => x.elim

theorem lit4 {g h : Heap} {L l : Addr} {a b c d : Int} {ta tb tc td : Tok} {rest : List (Addr × Obj)} (N : News g L h ((l, W.listOf #[.int a ta, .int b tb, .int c tc, .int d td] 0) :: rest)) :
    ∃ ys : List Value, IntsAre ys [a, b, c, d] ∧ News g L h ((l, W.listOf ys.toArray 0) :: rest) := ⟨_, .cons _ _ (.cons _ _ (.cons _ _ (.cons _ _ .nil))), N⟩

theorem pick_from (ys : List Value) (n : Nat) : kms_pick ys.toArray.toList (some (n : Int)) none = ys.drop n := by
  unfold kms_pick kms_lo kms_hi
  simp only [List.toArray, Int.toNat_natCast]
  rw [if_neg (by omega)]
  rw [List.take_of_length_le (by rw [List.length_drop]; omega)]
  rcases Nat.le_total n ys.length with h | h
  · rw [Nat.min_eq_left h]
  · rw [Nat.min_eq_right h, List.drop_eq_nil_of_le (Nat.le_refl _), List.drop_eq_nil_of_le h]
theorem ints_head {l : List Value} {ks : List Int} (h : IntsAre l ks) (hk : 1 ≤ ks.length) : ∃ a ta r k', l = .int a ta :: r ∧ IntsAre r k' ∧ ks.length = k'.length + 1 := by
  cases h with
  | nil => cases hk
  | cons n t h => exact ⟨_, _, _, _, rfl, h, rfl⟩
theorem four_ints {ns : List Int} {ws ys : List Value} (h1 : IntsAre ws (List.take 4 ns)) (h2 : IntsAre ys [3, 7, 1, 1]) :
    ∃ a b c d ta tb tc td r, ws ++ ys.drop ns.length = .int a ta :: .int b tb :: .int c tc :: .int d td :: r := by
  have h := h1.append (h2.drop ns.length)
  have hl : 4 ≤ (List.take 4 ns ++ List.drop ns.length [3, 7, 1, 1]).length := by
    rw [List.length_append, List.length_take, List.length_drop]
    show 4 ≤ _ + (4 - ns.length)
    omega
  generalize ws ++ ys.drop ns.length = l at h
  generalize List.take 4 ns ++ List.drop ns.length [3, 7, 1, 1] = ks at h hl
  obtain ⟨a, ta, l1, k1, rfl, h, e1⟩ := ints_head h (Nat.le_trans (by decide) hl)
  obtain ⟨b, tb, l2, k2, rfl, h, e2⟩ := ints_head h (by omega)
  obtain ⟨c, tc, l3, k3, rfl, h, e3⟩ := ints_head h (by omega)
  obtain ⟨d, td, l4, k4, rfl, h, e4⟩ := ints_head h (by omega)
  exact ⟨a, b, c, d, ta, tb, tc, td, l4, rfl⟩
theorem frame_of {g h : Heap} {L : Addr} {m : Str → Option Value} {x : Str} {v : Value} (F : Fr g L h m) (e : m x = some v) : ∃ m', Fr g L h m' ∧ m' x = some v := ⟨m, F, e⟩
theorem first_news {g h : Heap} {L D D7 l1 D1 : Addr} {ws vs : List Value} {o1 o2 o3 c5 c4 c3 c2 c1 t8 t6 : Obj} (e8 : ws = vs) (N : News g L h ((D, ({ cls := .type "list", data := .seq ws.toArray } : Obj)) :: (D7, o1) :: (l1, o2) :: (D1, o3) :: (L + 1 + 1 + 1 + 1 + 1, c5) :: (L + 1 + 1 + 1 + 1, c4) :: (L + 1 + 1 + 1, c3) :: (L + 1 + 1, c2) :: (L + 1, c1) :: (82, t8) :: (65, t6) :: [])) :
    News g L h [(D, lstO vs 0), (L + 1 + 1 + 1 + 1 + 1, c5), (L + 1 + 1 + 1 + 1, c4), (L + 1 + 1 + 1, c3), (L + 1 + 1, c2), (L + 1, c1), (82, t8), (65, t6)] := by
  subst e8
  intro q hq
  refine N q ?_
  rcases List.mem_cons.mp hq with h | h
  · rw [h]; exact .head _
  · exact .tail _ (.tail _ (.tail _ (.tail _ h)))
theorem first_cells {g h : Heap} {L D : Addr} {oD c5 c4 c3 c2 c1 : Obj} {t8 t6 : Array Value} (N : News g L h [(D, oD), (L + 1 + 1 + 1 + 1 + 1, c5), (L + 1 + 1 + 1 + 1, c4), (L + 1 + 1 + 1, c3), (L + 1 + 1, c2), (L + 1, c1), (82, tabObj t8), (65, tabObj t6)]) :
    News g L h (cellsL L c5 c4 c3 c2 c1 t8 t6 [(D, oD)]) := fun q hq => N q (by
  simp only [cellsL, List.mem_cons, List.not_mem_nil, or_false] at hq ⊢
  rcases hq with h | h | h | h | h | h | h | h <;> simp [h])
theorem first_sep {L D : Addr} {o c5 c4 c3 c2 c1 t8 t6 : Obj} (h : ∀ q ∈ [(L + 1 + 1 + 1 + 1 + 1, c5), (L + 1 + 1 + 1 + 1, c4), (L + 1 + 1 + 1, c3), (L + 1 + 1, c2), (L + 1, c1), (82, t8), (65, t6)], @LT.lt Nat _ q.1 D) : LSep L [(D, o)] := by
  have z : ∀ {x : Nat} {ox : Obj}, (x, ox) ∈ [(L + 1 + 1 + 1 + 1 + 1, c5), (L + 1 + 1 + 1 + 1, c4), (L + 1 + 1 + 1, c3), (L + 1 + 1, c2), (L + 1, c1), (82, t8), (65, t6)] → ∀ q ∈ [(D, o)], @Ne Nat q.1 x := by
    intro x ox hx q hq
    rw [List.mem_singleton.mp hq]
    exact Nat.ne_of_gt (h _ hx)
  exact ⟨z (.head _), z (.tail _ (.head _)), z (.tail _ (.tail _ (.head _))), z (.tail _ (.tail _ (.tail _ (.head _)))), z (.tail _ (.tail _ (.tail _ (.tail _ (.head _))))), z (.tail _ (.tail _ (.tail _ (.tail _ (.tail _ (.head _)))))), z (.tail _ (.tail _ (.tail _ (.tail _ (.tail _ (.tail _ (.head _)))))))⟩
theorem law_facts {z : Nat} {X1 Y1 : List Nat} {fb : Bool} (hz : z < 4) (h1 : 1 ≤ X1.length) (h3 : X1.length ≤ 3) (hl : Y1.length = X1.length) (hX : ∀ b ∈ X1, b < 2) (hY : ∀ b ∈ Y1, b < 2) (hfb : decide (Y1 = turnOf X1 z) = fb) :
    (alikeOf X1 Y1 z).count true = (if fb then 1 else 0) ∧ (alikeOf X1 Y1 z).findIdx? id = if fb then some (wantOf X1 z) else none := by
  have h := law_plain hz h1 h3 hl hX hY
  unfold lawOk idxOf at h
  subst hfb
  by_cases e : Y1 = turnOf X1 z
  · rw [if_pos e] at h
    rw [decide_eq_true e]
    simpa using h
  · rw [if_neg e] at h
    rw [decide_eq_false e]
    simpa using h

set_option maxHeartbeats 8000000 in
theorem lawP : PySem.Challenge.rw_re0071_01.Holds := hd (by
  k_go0
  all_goals try k_fold
  rename_i w s₀ s₁ mg mb G Y fa o pm cd doc ho hcd hg X V T B TE TW ns hs hlay0 hLy hr1 hl2 w9 w8 l vs w5 hL ra w1 r0 hI hr hc1 hc0 hD h₁ tk₁ c5 c4 c3 c2 c1 q5 q4 q3 q2 q1 X0 X' T' K' F' C1 N' l0
  refine law_post (LawEnd (ghostOf s₁.heap [(86, 82), (69, 65)]) s₁.heap.objs.size s₁) ?_ ?_
  · clear G Y ho hcd hg hT8 X V T B TE TW hT9 hs hlay0 hLy hr1 hl2 hL ra w1 r0 hr hc0 hD X0
    obtain ⟨loose, T1⟩ : ∃ lo, Top topProg lo (ExcName.means s₀.heap) mg mb (ghostOf s₁.heap [(86, 82), (69, 65)]) := ⟨_, T'⟩
    clear T'
    replace q5 : c5.data = .cell none := q5
    replace q4 : c4.data = .cell none := q4
    replace q3 : c3.data = .cell none := q3
    replace q2 : c2.data = .cell none := q2
    replace q1 : c1.data = .cell none := q1
    obtain ⟨m0, F1, hm0⟩ : ∃ m, Fr (ghostOf s₁.heap [(86, 82), (69, 65)]) s₁.heap.objs.size h₁ m ∧ m "script" = some (.ref l) := ⟨_, F', rfl⟩
    clear F'
    rw [map_one hm0] at F1
    generalize ghostOf s₁.heap [(86, 82), (69, 65)] = g₀ at *
    generalize s₁.heap.objs.size = L at *
    replace C1 : CodeHd g₀ 86 82 := C1
    replace codeHd : CodeHd g₀ 69 65 := codeHd
    dsimp only
    clear w9 w8 w5
    (repeat' ((fail_if_success first | (with_reducible show wpAny _ _ (PySem.exec (PySem.Stmt.Assign [PySem.Expr.Name (PySem.Str.ofString "both") _] _ _) _) _ _ _) | (with_reducible show wpAny _ _ (subscriptTail (PySem.Expr.List _ _) _ _ _) _ _ _) | (with_reducible show wpAny _ _ (PySem.exec (PySem.Stmt.Assign _ (PySem.Expr.ListComp _ _ _ _) _) _) _ _ _) | (with_reducible show wpAny _ _ (PySem.eval (PySem.Expr.ListComp _ _ _ _) _) _ _ _)); first | (k_unfold; (try dsimp only)) | (walk1) | (dsimp only; walk1)))
    rename (News _ _ _ _) => N5
    obtain ⟨ys, hys, N6⟩ := lit4 N5
    clear N5
    k_dflt (refine kba_turn (value' := PySem.Expr.Name (PySem.Str.ofString "_") ⟨0, 0, 0, 0⟩) (fun _ => rfl) ?_)
    k_dflt (refine' kms_slice_lit (its := ys.toArray) (zs := ys.drop ns.length) (lo := some (ns.length : Int)) (hi := none) ?zF ?zN ?zl ?zp ?zq ?ze ?_ ?zs ?zt ?zz)
    case zF => k_asm
    case zN => exact N6
    case zl => exact ⟨_, (N6 _ (.head _)).1, rfl, 0, rfl⟩
    case zp => exact IsPart.int _ _
    case zq => exact IsPart.none
    case ze => exact pick_from ys ns.length
    case zs => with_unfolding_all rfl
    case zt => kmk_pure
    case zz => rw [List.size_toArray]; have := hys.length; rw [sizeLine_eq]; simp at this; omega
    intro D7 h7 F7 N7 l7
    rename (IntsAre _ (List.take 4 ns)) => hI1
    have hl7 := hI1.length
    rw [List.length_take] at hl7
    refine add_arrays (its2 := (ys.drop ns.length).toArray) F7 N7 ⟨_, (N7 _ (.tail _ (.tail _ (.head _)))).1, rfl, 0, rfl⟩ ⟨_, (N7 _ (.head _)).1, rfl, 0, rfl⟩ ?_ (by have := hys.length; rw [sizeLine_eq]; simp at this ⊢; omega)
    intro h8 F8 N8
    obtain ⟨a, b, c, d, ta, tb, tc, td, r8, e8⟩ := four_ints hI1 hys
    have N9 := first_news (e8 := e8) N8
    have lD : ∀ q ∈ [(L + 1 + 1 + 1 + 1 + 1, c5), (L + 1 + 1 + 1 + 1, c4), (L + 1 + 1 + 1, c3), (L + 1 + 1, c2), (L + 1, c1), (82, tabObj #[]), (65, tabObj #[])], @LT.lt Nat _ q.1 h7.objs.size := fun q hq => Heap.lt_size (N7 q (.tail _ (.tail _ (.tail _ hq)))).1
    clear N8 F7 N7 l7 N6 hl7 hI1 hys
    dsimp only at N9 ⊢
    generalize hD : h7.objs.size = D at *
    (repeat' ((fail_if_success first | (with_reducible show wpAny _ _ (PySem.exec (PySem.Stmt.Assign [PySem.Expr.Name (PySem.Str.ofString "both") _] _ _) _) _ _ _)); first | (k_unfold; (try dsimp only)) | (walk1) | (dsimp only; walk1)))
    rename (Fr _ _ _ _) => F1
    rename (News _ _ _ _) => N1
    clear lifted hI hc1
    obtain ⟨m1, F2, hm1⟩ := frame_of (x := Str.ofString "numbers") F1 rfl
    clear F1
    have k5 : isC c5 := ⟨_, q5⟩
    have k4 : isC c4 := ⟨_, q4⟩
    have k3 : isC c3 := ⟨_, q3⟩
    have k2 : isC c2 := ⟨_, q2⟩
    have k1 : isC c1 := ⟨_, q1⟩
    have N0 := first_cells N1
    have S0 := first_sep (o := lstO (.int a ta :: .int b tb :: .int c tc :: .int d td :: r8) 0) lD
    clear N1 lD q1 q2 q3 q4 q5 hm0
    generalize hrest : [(D, lstO (.int a ta :: .int b tb :: .int c tc :: .int d td :: r8) 0)] = rest0 at *
    have hD0 : (D, lstO (.int a ta :: .int b tb :: .int c tc :: .int d td :: r8) 0) ∈ rest0 := by rw [← hrest]; exact .head _
    clear hrest
    refine st_both _ _ _ _ _ _ _ _ _ _ _ _ _ _ _ _ _ _ _ _ _ X' K' T1 l0 F2 N0 S0 k5 k4 k3 k2 k1 D a b c d ta tb tc td r8 hm1 hD0 _ _ _ _ _ _ _ ?_
    clear F2 N0
    intro rp f g h tk c1' rest1 hf hg hfg F1 N1 S1 sub1 d1 hP1
    clear k1
    have k1 : isC c1' := ⟨_, d1⟩
    (repeat' ((fail_if_success (with_reducible show wpAny _ _ (PySem.exec _ _) _ _ _)); first | walk1 | (dsimp only; walk1)))
    refine st_left _ _ _ _ _ _ _ _ _ _ _ _ _ _ _ _ _ _ _ _ _ X' K' T1 l0 C1 codeHd F1 N1 S1 k5 k4 k3 k2 k1 D a b c d ta tb tc td r8 hm1 (sub1 _ hD0) _ _ _ _ _ _ _ ?_
    clear F1 N1
    intro rl X1 h tk c2' rest2 hX1 hX3 hXb F2 N2 S2 sub2 d2 hX2
    clear k2
    have k2 : isC c2' := ⟨_, d2⟩
    have hP2 := hP1.mono sub2
    (repeat' ((fail_if_success (with_reducible show wpAny _ _ (PySem.exec _ _) _ _ _)); first | walk1 | (dsimp only; walk1)))
    refine st_right _ _ _ _ _ _ _ _ _ _ _ _ _ _ _ _ _ _ _ _ _ X' K' T1 l0 C1 codeHd F2 N2 S2 k5 k4 k3 k2 k1 D a b c d ta tb tc td r8 hm1 (sub2 _ (sub1 _ hD0)) rl X1 d2 hX2 hX1 hX3 hXb _ _ _ _ _ _ _ _ _ _ _ _ _ _ _ ?_
    clear F2 N2
    intro rr Y1 h tk c3' rest3 hYX hYb F3 N3 S3 sub3 d3 hY3
    clear k3
    have k3 : isC c3' := ⟨_, d3⟩
    have hP3 := hP2.mono sub3
    have hX3' := hX2.mono sub3
    (repeat' ((fail_if_success (with_reducible show wpAny _ _ (PySem.exec _ _) _ _ _)); first | walk1 | (dsimp only; walk1)))
    refine st_width _ _ _ _ _ _ _ _ _ _ _ _ _ _ _ _ _ _ _ _ _ X' K' T1 l0 C1 codeHd F3 N3 S3 k5 k4 k3 k2 k1 D a b c d ta tb tc td r8 hm1 (sub3 _ (sub2 _ (sub1 _ hD0))) _ _ _ _ _ _ _ ?_
    clear F3 N3
    intro z tz h tk hz F4 N4
    generalize hm2 : (fun y => if y = Str.ofString "width" then some (Value.int (z : Int) tz) else m1 y) = m2 at F4
    have w2 : m2 "width" = some (.int (z : Int) tz) := by rw [← hm2]; exact if_pos rfl
    clear hm2
    (repeat' ((fail_if_success (with_reducible show wpAny _ _ (PySem.exec _ _) _ _ _)); first | walk1 | (dsimp only; walk1)))
    refine st_middles _ _ _ _ _ _ _ _ _ _ _ _ _ _ _ _ _ _ _ _ _ X' K' T1 l0 C1 codeHd F4 N4 S3 k5 k4 k3 k2 k1 z tz hz w2 _ _ _ _ _ ?_
    clear F4 N4
    intro rm ysm h tk rest4 F5 N5 S4 sub4 hM4 hMs4
    have hP4 := hP3.mono sub4
    have hX4 := hX3'.mono sub4
    have hY4 := hY3.mono sub4
    generalize hm3 : (fun y => if y = Str.ofString "middles" then some (Value.ref rm) else m2 y) = m3 at F5
    have w3 : m3 "width" = some (.int (z : Int) tz) := by rw [← hm3]; exact (if_neg (by decide)).trans w2
    have i3 : m3 "middles" = some (.ref rm) := by rw [← hm3]; exact if_pos rfl
    clear hm3
    (repeat' ((fail_if_success (with_reducible show wpAny _ _ (PySem.exec _ _) _ _ _)); first | walk1 | (dsimp only; walk1)))
    refine st_ahead _ _ _ _ _ _ _ _ _ _ _ _ _ _ _ _ _ _ _ _ _ X' K' T1 l0 C1 codeHd F5 N5 S4 k5 k4 k3 k2 k1 z hz rm rp rl rr f g X1 Y1 ysm i3 hM4 hMs4 d1 hP4 d2 hX4 hX3 hXb d3 hY4 (by omega) hYb .none _ _ _ _ _ _ _ _ _ _ ?_
    clear F5 N5
    intro ra la h tk c4' t8 rest5 hla F6 N6 S5 sub5 d4 hA5 hT5
    clear k4
    have k4 : isC c4' := ⟨_, d4⟩
    (repeat' ((fail_if_success (with_reducible show wpAny _ _ (PySem.exec _ _) _ _ _)); first | walk1 | (dsimp only; walk1)))
    refine st_after _ _ _ _ _ _ _ _ _ _ _ _ _ _ _ _ _ _ _ _ _ X' K' T1 l0 C1 codeHd F6 N6 S5 k5 k4 k3 k2 k1 z hz rm rp rl rr f g X1 Y1 ysm i3 (sub5 _ hM4) (hMs4.mono sub5) d1 (hP4.mono sub5) d2 (hX4.mono sub5) hX3 hXb d3 (hY4.mono sub5) (by omega) hYb hT5 _ _ _ _ _ _ _ _ _ _ ?_
    clear F6 N6
    intro rb lb h tk c5' t8' rest6 hlb F7 N7 S6 sub6 d5 hB6 hT6
    clear k5
    have k5 : isC c5' := ⟨_, d5⟩
    have sub46 : ∀ q ∈ rest4, q ∈ rest6 := fun q hq => sub6 q (sub5 q hq)
    have hM6 := sub46 _ hM4
    have hMs6 := hMs4.mono sub46
    have hP6 := hP4.mono sub46
    have hX6 := hX4.mono sub46
    have hY6 := hY4.mono sub46
    have hA6 := sub6 _ hA5
    have hz4 : z = 0 ∨ z = 1 ∨ z = 2 ∨ z = 3 := by omega
    have hz8 : 2 ^ z ≤ 8 := by rcases hz4 with rfl | rfl | rfl | rfl <;> decide
    (repeat' ((fail_if_success (with_reducible show wpAny _ _ (PySem.exec _ _) _ _ _)); first | walk1 | (dsimp only; walk1)))
    refine st_alike _ _ _ _ _ _ _ _ _ _ _ _ _ _ _ _ _ _ _ _ _ X' K' T1 l0 C1 codeHd F7 N7 S6 k5 k4 k3 k2 k1 z hz rm ra rb f g hf hg hfg X1 Y1 ysm i3 hM6 (by rw [hMs6.len, rows_len]) la lb d4 hA6 hla d5 hB6 hlb hXb hYb hYX _ _ _ _ _ _ _ _ _ _ _ _ _ _ _ _ _ _ _ (by with_unfolding_all rfl) ?_
    clear F7 N7
    intro al h tk rest7 F8 N8 S7 sub7 hAl
    have hM7 := sub7 _ hM6
    have hMs7 := hMs6.mono sub7
    have hP7 := hP6.mono sub7
    have hX7 := hX6.mono sub7
    have hY7 := hY6.mono sub7
    have hA7 := sub7 _ hA6
    have hB7 := sub7 _ hB6
    generalize hm4 : (fun y => if y = Str.ofString "alike" then some (Value.ref al) else m3 y) = m4 at F8
    have w4 : m4 "width" = some (.int (z : Int) tz) := by rw [← hm4]; exact (if_neg (by decide)).trans w3
    have i4 : m4 "middles" = some (.ref rm) := by rw [← hm4]; exact (if_neg (by decide)).trans i3
    have a4 : m4 "alike" = some (.ref al) := by rw [← hm4]; exact if_pos rfl
    clear hm4
    (repeat' ((fail_if_success (with_reducible show wpAny _ _ (PySem.exec _ _) _ _ _)); first | walk1 | (dsimp only; walk1)))
    refine st_fits _ _ _ _ _ _ _ _ _ _ _ _ _ _ _ _ _ _ _ _ _ X' K' T1 l0 C1 codeHd F8 N8 S7 k5 k4 k3 k2 k1 z tz hz w4 rl X1 d2 hX7 hX1 hX3 hXb rr Y1 d3 hY7 _ _ _ _ _ _ _ _ ?_
    clear F8 N8
    intro h tk F9 N9
    generalize hfb : decide (Y1 = turnOf X1 z) = fb at F9
    generalize hm5 : (fun y => if y = Str.ofString "fits" then some (Value.bool fb) else m4 y) = m5 at F9
    have w5 : m5 "width" = some (.int (z : Int) tz) := by rw [← hm5]; exact (if_neg (by decide)).trans w4
    have i5 : m5 "middles" = some (.ref rm) := by rw [← hm5]; exact (if_neg (by decide)).trans i4
    have a5 : m5 "alike" = some (.ref al) := by rw [← hm5]; exact (if_neg (by decide)).trans a4
    have f5 : m5 "fits" = some (.bool fb) := by rw [← hm5]; exact if_pos rfl
    clear hm5
    (repeat' ((fail_if_success (with_reducible show wpAny _ _ (PySem.exec _ _) _ _ _)); first | walk1 | (dsimp only; walk1)))
    refine st_zero _ _ _ _ _ _ _ _ _ _ _ _ _ _ _ _ _ _ _ _ _ X' K' T1 l0 C1 codeHd F9 N9 S7 k5 k4 k3 k2 k1 trivial _ _ _ ?_
    clear F9 N9
    intro h tk t0 F10 N10
    generalize hm6 : (fun y => if y = Str.ofString "wanted" then some (Value.int 0 t0) else m5 y) = m6 at F10
    have w6 : m6 "width" = some (.int (z : Int) tz) := by rw [← hm6]; exact (if_neg (by decide)).trans w5
    have i6 : m6 "middles" = some (.ref rm) := by rw [← hm6]; exact (if_neg (by decide)).trans i5
    have a6 : m6 "alike" = some (.ref al) := by rw [← hm6]; exact (if_neg (by decide)).trans a5
    have f6 : m6 "fits" = some (.bool fb) := by rw [← hm6]; exact (if_neg (by decide)).trans f5
    have v6 : m6 "wanted" = some (.int 0 t0) := by rw [← hm6]; exact if_pos rfl
    clear hm6
    (repeat' ((fail_if_success (with_reducible show wpAny _ _ (PySem.exec _ _) _ _ _)); first | walk1 | (dsimp only; walk1)))
    refine st_for _ _ _ _ _ _ _ _ _ _ _ _ _ _ _ _ _ _ _ _ _ X' K' T1 l0 C1 codeHd F10 N10 S7 k5 k4 k3 k2 k1 z tz t0 hz w6 v6 rl X1 d2 hX7 hX1 hX3 hXb _ _ _ _ _ _ _ _ _ _ _ _ _ _ _ _ _ _ ?_
    clear F10 N10
    intro h tk m7 tw e7 v7 F11 N11
    have i7 : m7 "middles" = some (.ref rm) := (e7 _ (by decide) (by decide)).trans i6
    have a7 : m7 "alike" = some (.ref al) := (e7 _ (by decide) (by decide)).trans a6
    have f7 : m7 "fits" = some (.bool fb) := (e7 _ (by decide) (by decide)).trans f6
    obtain ⟨hc, hi⟩ := law_facts hz hX1 hX3 hYX hXb hYb hfb
    have hW := want_lt hz hX1 hX3 hXb
    have hal : (alikeOf X1 Y1 z).length ≤ 8 := by unfold alikeOf; rw [List.length_map, rows_len]; omega
    generalize wantOf X1 z = W at *
    (repeat' ((fail_if_success (with_reducible show wpAny _ _ (PySem.exec _ _) _ _ _)); first | walk1 | (dsimp only; walk1)))
    refine st_if1 _ _ _ _ _ _ _ _ _ _ _ _ _ _ _ _ _ _ _ _ _ X' K' T1 l0 C1 codeHd F11 N11 S7 k5 k4 k3 k2 k1 al (alikeOf X1 Y1 z) fb a7 f7 hAl hal hc _ _ _ _ _ _ _ _ _ _ _ _ ?_
    clear F11 N11
    intro h tk F12 N12
    (repeat' ((fail_if_success (with_reducible show wpAny _ _ (PySem.exec _ _) _ _ _)); first | walk1 | (dsimp only; walk1)))
    refine st_if2 _ _ _ _ _ _ _ _ _ _ _ _ _ _ _ _ _ _ _ _ _ X' K' T1 l0 C1 codeHd F12 N12 S7 k5 k4 k3 k2 k1 trivial al (alikeOf X1 Y1 z) fb W tw a7 f7 v7 hAl hal hi _ _ _ _ _ _ _ _ _ _ _ ?_
    clear F12 N12
    intro h tk F13 N13
    (repeat' ((fail_if_success (with_reducible show wpAny _ _ (PySem.exec _ _) _ _ _)); first | walk1 | (dsimp only; walk1)))
    refine st_if3 _ _ _ _ _ _ _ _ _ _ _ _ _ _ _ _ _ _ _ _ _ X' K' T1 l0 C1 codeHd F13 N13 S7 k5 k4 k3 k2 k1 z W tw hz hW rm rp rr rb f g Y1 ysm i7 v7 hM7 hMs7 d1 hP7 d3 hY7 (by omega) (by omega) hYb lb d5 hB7 hlb .none _ _ _ _ _ _ _ _ _ _ _ _ _ _ _ _ _ _ _ _ _ _ ?_
    clear F13 N13
    intro h tk t6 F14 N14
    (repeat' ((fail_if_success (with_reducible show wpAny _ _ (PySem.exec _ _) _ _ _)); first | walk1 | (dsimp only; walk1)))
    refine st_if4 _ _ _ _ _ _ _ _ _ _ _ _ _ _ _ _ _ _ _ _ _ X' K' T1 l0 C1 codeHd F14 N14 S7 k5 k4 k3 k2 k1 z hz rm rp rl ra f g X1 ysm i7 hM7 hMs7 d1 hP7 d2 hX7 hX3 hXb la d4 hA7 hla _ _ _ _ _ _ _ _ _ _ _ _ _ _ ?_
    clear F14 N14
    intro h tk F15 N15
    (repeat' ((fail_if_success (with_reducible show wpAny _ _ (PySem.exec _ _) _ _ _)); first | walk1 | (dsimp only; walk1)))
    refine st_ret _ _ _ _ _ _ _ _ _ _ _ _ _ _ _ _ _ _ _ _ _ X' K' T1 l0 C1 codeHd F15 N15 S7 k5 k4 k3 k2 k1 z hz rm rp rr rb f g Y1 ysm i7 hM7 hMs7 d1 hP7 d3 hY7 (by omega) hYb lb d5 hB7 hlb _ _ _ _ _ _ _ _ _ _ _ _ ⟨0, 0, 0, 0⟩ ⟨0, 0, 0, 0⟩ ?_
    clear F15 N15
    intro h tk F16 N16
    exact ⟨rfl, h, tk, t8', t6, rest7, m7, rfl, F16, fun q hq => N16 q (.tail _ (.tail _ (.tail _ (.tail _ (.tail _ hq)))))⟩
  · clear F' N'
    rintro f s' ⟨rfl, h, tk, a, b, rest, m', rfl, F, N⟩
    dsimp only
    k_steps)
end
end Mine

theorem PySem.Challenge.cw_re0071_01_holds : PySem.Challenge.rw_re0071_01.Holds :=
  Mine.lawP
