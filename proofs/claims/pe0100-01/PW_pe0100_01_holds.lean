import PyProof.Rows.All
import Wide.All
import OpenK.AllK
import Wide.FinOn
import PySem.Challenge.RW_pe0100_01
set_option Elab.async false
-- Sre1
section
open PySem
set_option maxRecDepth 100000
set_option linter.unusedSimpArgs false
set_option linter.unusedVariables false
namespace Mine
namespace R
open PySem.Sre PySem.Sre.M

theorem runFor_done {k : Nat} {m : M} (h : m.outcome.isSome = true) : runFor k m = m := by
  cases k with
  | zero => rfl
  | succ k => rw [runFor, if_pos h]

theorem runFor_succ {k : Nat} {m : M} (h : m.outcome = none) : runFor (k + 1) m = runFor k m.step := by
  rw [runFor, if_neg (by rw [h]; decide)]

theorem runFor_add (a b : Nat) (m : M) : runFor (a + b) m = runFor b (runFor a m) := by
  induction a generalizing m with
  | zero => rw [Nat.zero_add]; rfl
  | succ a ih =>
    rw [Nat.add_right_comm, runFor, runFor]
    split
    · rename_i h; rw [runFor_done h]
    · exact ih _

def code1 : Array Nat := #[14, 4, 0, 1, 1, 6, 1, 16, 46, 1]

def st1 (T : Array Nat) (s : Nat) (o : Bool) (sn : Seen) : M :=
  { code := code1, text := T, lim := T.size, start := s, lastStart := T.size, pc := 5, pos := s, handed := s, outermost := o, marks := #[], frames := [{ wait := .nextStart, pc := 5, pos := s, outermost := o }], weight := 1, seen := sn }

abbrev Bol (T : Array Nat) (s : Nat) : Prop := s = 0 ∨ T[s - 1]?.getD 0 = 10

theorem st1_at_no {T : Array Nat} {s : Nat} {o : Bool} {sn : Seen} (h : ¬ Bol T s) (hs : s < T.size) :
    runFor 2 (st1 T s o sn) = st1 T (s + 1) false ((sn.add 6).add 44) := by
  rw [runFor_succ rfl]
  have e : (st1 T s o sn).step = { (st1 T s o sn) with answer := some false, seen := (sn.add 6).add 44 } := by
    simp only [Bol, not_or] at h
    simp [M.step, M.exec, st1, M.word, code1, ops, M.isAt, M.say, h]
  rw [e, runFor_succ rfl]
  simp [M.step, M.resume, st1, runFor, hs, M.attemptFrom, M.hasFirstSet, M.attemptAt, M.attempt, code1, ops]

theorem st1_at_yes {T : Array Nat} {s : Nat} {o : Bool} {sn : Seen} (h : Bol T s) :
    (st1 T s o sn).step = { (st1 T s o sn) with pc := 7, seen := (sn.add 6).add 44 } := by
  simp only [Bol] at h
  simp [M.step, M.exec, st1, M.word, code1, ops, M.isAt, M.say, h]

theorem st1_lit_no {T : Array Nat} {s : Nat} {o : Bool} {sn : Seen} (h : Bol T s) (hd : T[s]?.getD 0 ≠ 46) (hs : s < T.size) :
    runFor 3 (st1 T s o sn) = st1 T (s + 1) false (((sn.add 6).add 44).add 16) := by
  rw [runFor_succ rfl, st1_at_yes h, runFor_succ rfl]
  have e : M.step { (st1 T s o sn) with pc := 7, seen := (sn.add 6).add 44 } = { (st1 T s o sn) with pc := 7, answer := some false, seen := ((sn.add 6).add 44).add 16 } := by
    have hs' : ¬ T.size ≤ s := by omega
    have hq : (T[s]?.getD 0 == 46) = false := by simpa using hd
    simp [M.step, M.exec, st1, M.word, code1, ops, M.say, hs', accepts, hq]
  rw [e, runFor_succ rfl]
  simp [M.step, M.resume, st1, runFor, hs, M.attemptFrom, M.hasFirstSet, M.attemptAt, M.attempt, code1, ops]

theorem st1_no {T : Array Nat} {s : Nat} {o : Bool} {sn : Seen} (h : ¬ (Bol T s ∧ T[s]?.getD 0 = 46)) (hs : s < T.size) :
    ∃ k sn', k ≤ 3 ∧ runFor k (st1 T s o sn) = st1 T (s + 1) false sn' := by
  by_cases hb : Bol T s
  · exact ⟨3, _, by omega, st1_lit_no hb (fun q => h ⟨hb, q⟩) hs⟩
  · exact ⟨2, _, by omega, st1_at_no hb hs⟩

/-- what a search has come to -/
def Ended (m : M) (r : Option (Nat × Nat)) : Prop :=
  match r with
  | some (b, e) => m.outcome = some .matched ∧ m.start = b ∧ m.handed = e
  | none => m.outcome = some .failed

theorem st1_yes {T : Array Nat} {s : Nat} {o : Bool} {sn : Seen} (h : Bol T s) (hd : T[s]?.getD 0 = 46) (hs : s < T.size) :
    Ended (runFor 5 (st1 T s o sn)) (some (s, s + 1)) := by
  rw [runFor_succ rfl, st1_at_yes h, runFor_succ rfl]
  have e : M.step { (st1 T s o sn) with pc := 7, seen := (sn.add 6).add 44 } = { (st1 T s o sn) with pc := 9, pos := s + 1, seen := ((sn.add 6).add 44).add 16 } := by
    have hs' : ¬ T.size ≤ s := by omega
    have hq : (T[s]?.getD 0 == 46) = true := by simpa using hd
    simp [M.step, M.exec, st1, M.word, code1, ops, hs', accepts, hq, itemWidth]
  rw [e]
  simp [runFor, M.step, M.exec, st1, M.word, M.say, M.resume, code1, ops, Ended]

theorem st1_end {T : Array Nat} {o : Bool} {sn : Seen} : Ended (runFor 4 (st1 T T.size o sn)) none := by
  by_cases h : Bol T T.size
  · rw [runFor_succ rfl, st1_at_yes h]
    simp [runFor, M.step, M.exec, st1, M.word, M.say, M.resume, code1, ops, Ended]
  · simp only [Bol, not_or] at h
    have e : (st1 T T.size o sn).step = { (st1 T T.size o sn) with answer := some false, seen := (sn.add 6).add 44 } := by
      simp [M.step, M.exec, st1, M.word, code1, ops, M.isAt, M.say, h]
    rw [runFor_succ rfl, e]
    simp [runFor, M.step, M.exec, st1, M.word, M.say, M.resume, code1, ops, Ended]

/-- where the first pattern is found, from s on: n places are left -/
def find1 (T : Array Nat) : (n s : Nat) → Option (Nat × Nat)
  | 0, _ => none
  | n + 1, s => if Bol T s ∧ T[s]?.getD 0 = 46 then some (s, s + 1) else find1 T n (s + 1)

theorem ended_done {m : M} {r : Option (Nat × Nat)} (h : Ended m r) : m.outcome.isSome = true := by
  cases r with
  | none => rw [show m.outcome = _ from h]; rfl
  | some x => rw [h.1]; rfl

theorem search1 {T : Array Nat} : ∀ (n s : Nat) (o : Bool) (sn : Seen), s + n = T.size → ∃ k, k ≤ 4 * n + 5 ∧ Ended (runFor k (st1 T s o sn)) (find1 T n s)
  | 0, s, o, sn, h => ⟨4, by omega, by obtain rfl : s = T.size := by omega
                                       exact st1_end⟩
  | n + 1, s, o, sn, h => by
    rw [find1]
    split
    · rename_i hm
      exact ⟨5, by omega, st1_yes hm.1 hm.2 (by omega)⟩
    · rename_i hm
      obtain ⟨k, sn', hk, e⟩ := st1_no (T := T) (o := o) (sn := sn) hm (by omega)
      obtain ⟨k', hk', e'⟩ := search1 (T := T) n (s + 1) false sn' (by omega)
      exact ⟨k + k', by omega, by rw [runFor_add, e]; exact e'⟩

def fresh0 (code T : Array Nat) (s : Nat) : M :=
  { code := code, text := T, lim := T.size, start := s, pc := (header code).2, pos := s, handed := s, marks := Array.replicate (2 * 0) none, mustAdvance := false,
    seen := if (header code).2 == 0 then {} else ({} : Seen).add 14 }
theorem forSearch_eq (code T : Array Nat) (s : Nat) : forSearch code T 0 s T.size false =
    if s > T.size || T.size - s < (header code).1 then (fresh0 code T s).say false
    else { fresh0 code T s with lastStart := if (header code).1 > 1 && !((header code).2 != 0 && code.getD 2 0 &&& 5 != 0) then max s (T.size - ((header code).1 - 1)) else T.size }.attemptFrom s true := rfl

theorem forSearch1 {T : Array Nat} {n s : Nat} (h : s + n = T.size) :
    ∃ k, k ≤ 4 * n + 5 ∧ Ended (runFor k (forSearch code1 T 0 s T.size false)) (find1 T n s) := by
  rw [forSearch_eq]
  have h1 : header code1 = (1, 5) := by decide
  rw [h1]
  cases n with
  | zero =>
    obtain rfl : s = T.size := by omega
    refine ⟨1, by omega, ?_⟩
    simp [fresh0, h1, runFor, M.step, M.say, Ended, find1]
  | succ n =>
    rw [if_neg (by simp; omega)]
    have e : M.attemptFrom { fresh0 code1 T s with lastStart := if 1 > 1 && !(5 != 0 && code1.getD 2 0 &&& 5 != 0) then max s (T.size - (1 - 1)) else T.size } s true = st1 T s true (({} : Seen).add 14) := by
      simp [fresh0, header, st1, M.attemptFrom, M.hasFirstSet, M.attemptAt, M.attempt, code1, ops]
    rw [show M.attemptFrom _ s true = _ from e]
    exact search1 (n + 1) s true _ h

def code3 : Array Nat := #[14, 9, 4, 1, 2, 16, 10, 16, 13, 0, 7, 7, 16, 13, 16, 10, 15, 18, 5, 16, 10, 15, 13, 11, 16, 13, 5, 5, 0, 16, 10, 1, 15, 2, 0, 1]

theorem inSet3 (c : Nat) (sn : Seen) : ∃ sn', inSet code3 c code3.size 5 true sn = .ok (c == 10 || c == 13, sn') := by
  by_cases h1 : c = 10
  · subst h1; exact ⟨_, rfl⟩
  · by_cases h2 : c = 13
    · subst h2; exact ⟨_, rfl⟩
    · refine ⟨((sn.add 16).add 16).add 0, ?_⟩
      have e1 : (c == 10) = false := by simpa using h1
      have e2 : (c == 13) = false := by simpa using h2
      simp [inSet, code3, ops, e1, e2]

/-- the first line end from s on: n places are left -/
def eol (T : Array Nat) : (n s : Nat) → Option Nat
  | 0, _ => none
  | n + 1, s => if T[s]?.getD 0 = 10 ∨ T[s]?.getD 0 = 13 then some s else eol T n (s + 1)

theorem admitted3 {m : M} (hc : m.code = code3) (hl : m.lim = m.text.size) : ∀ (n s : Nat) (sn : Seen), s + n = m.text.size → ∃ sn', admitted m (n + 1) s sn = .ok (eol m.text n s, sn')
  | 0, s, sn, h => ⟨sn, by rw [admitted, if_pos (by omega)]; rfl⟩
  | n + 1, s, sn, h => by
    rw [admitted, if_neg (by omega), hc]
    obtain ⟨sn', e⟩ := inSet3 (m.text.getD s 0) sn
    rw [e, eol]
    by_cases h1 : m.text.getD s 0 = 10 ∨ m.text.getD s 0 = 13
    · have : (m.text.getD s 0 == 10 || m.text.getD s 0 == 13) = true := by simpa using h1
      rw [this]
      rw [if_pos (by simpa using h1)]
      exact ⟨_, rfl⟩
    · have : (m.text.getD s 0 == 10 || m.text.getD s 0 == 13) = false := by simpa using h1
      rw [this]
      rw [if_neg (by simpa using h1)]
      exact admitted3 hc hl n (s + 1) sn' (by omega)

def st3 (T : Array Nat) (s : Nat) (o : Bool) (sn : Seen) : M :=
  { code := code3, text := T, lim := T.size, start := s, lastStart := T.size, pc := 10, pos := s, handed := s, outermost := o, marks := #[], frames := [{ wait := .nextStart, pc := 10, pos := s, outermost := o }], weight := 1, seen := sn }

/-- how far a line end at s goes -/
def eolEnd (T : Array Nat) (s : Nat) : Nat := if T[s]?.getD 0 = 13 ∧ s + 1 < T.size ∧ T[s + 1]?.getD 0 = 10 then s + 2 else s + 1

theorem st3_crlf {T : Array Nat} {s : Nat} {o : Bool} {sn : Seen} (hs : s < T.size) (h : T[s]?.getD 0 = 13 ∧ s + 1 < T.size ∧ T[s + 1]?.getD 0 = 10) :
    Ended (runFor 8 (st3 T s o sn)) (some (s, s + 2)) := by
  obtain ⟨h1, h2, h3⟩ := h
  have g1 : ¬ T.size ≤ s := by omega
  have g2 : ¬ T.size ≤ s + 1 := by omega
  have q1 : T[s]?.getD 0 = 13 := h1
  simp [runFor, M.step, M.exec, st3, M.word, M.say, M.resume, code3, ops, Ended, M.alternative, M.attempt, M.keep, M.frame, accepts, itemWidth, g1, g2, q1, h3, M.putBack]

theorem st3_lf {T : Array Nat} {s : Nat} {o : Bool} {sn : Seen} (hs : s < T.size) (h : T[s]?.getD 0 = 10) :
    Ended (runFor 12 (st3 T s o sn)) (some (s, s + 1)) := by
  have g1 : ¬ T.size ≤ s := by omega
  simp [runFor, M.step, M.exec, st3, M.word, M.say, M.resume, code3, ops, Ended, M.alternative, M.attempt, M.keep, M.frame, accepts, itemWidth, g1, h, M.putBack]

theorem st3_cr_end {T : Array Nat} {s : Nat} {o : Bool} {sn : Seen} (hs : s + 1 = T.size) (h : T[s]?.getD 0 = 13) :
    Ended (runFor 20 (st3 T s o sn)) (some (s, s + 1)) := by
  have g1 : ¬ T.size ≤ s := by omega
  have g2 : T.size ≤ s + 1 := by omega
  simp [runFor, M.step, M.exec, st3, M.word, M.say, M.resume, code3, ops, Ended, M.alternative, M.attempt, M.keep, M.frame, accepts, itemWidth, g1, g2, h, M.putBack]

theorem st3_cr {T : Array Nat} {s : Nat} {o : Bool} {sn : Seen} (hs : s + 1 < T.size) (h : T[s]?.getD 0 = 13) (h2 : T[s + 1]?.getD 0 ≠ 10) :
    Ended (runFor 20 (st3 T s o sn)) (some (s, s + 1)) := by
  have g1 : ¬ T.size ≤ s := by omega
  have g2 : ¬ T.size ≤ s + 1 := by omega
  have g3 : (T[s + 1]?.getD 0 == 10) = false := by simpa using h2
  simp [runFor, M.step, M.exec, st3, M.word, M.say, M.resume, code3, ops, Ended, M.alternative, M.attempt, M.keep, M.frame, accepts, itemWidth, g1, g2, g3, h, M.putBack]

theorem st3_ends {T : Array Nat} {s : Nat} {o : Bool} {sn : Seen} (hs : s < T.size) (h : T[s]?.getD 0 = 10 ∨ T[s]?.getD 0 = 13) :
    ∃ k, k ≤ 20 ∧ Ended (runFor k (st3 T s o sn)) (some (s, eolEnd T s)) := by
  unfold eolEnd
  by_cases hc : T[s]?.getD 0 = 13 ∧ s + 1 < T.size ∧ T[s + 1]?.getD 0 = 10
  · rw [if_pos hc]; exact ⟨8, by omega, st3_crlf hs hc⟩
  · rw [if_neg hc]
    rcases h with h | h
    · exact ⟨12, by omega, st3_lf hs h⟩
    · by_cases h1 : s + 1 < T.size
      · exact ⟨20, by omega, st3_cr h1 h fun q => hc ⟨h, h1, q⟩⟩
      · exact ⟨20, by omega, st3_cr_end (by omega) h⟩

def find3 (T : Array Nat) (n s : Nat) : Option (Nat × Nat) := (eol T n s).map fun b => (b, eolEnd T b)

theorem eol_spec {T : Array Nat} : ∀ {n s b : Nat}, s + n = T.size → eol T n s = some b → s ≤ b ∧ b < T.size ∧ (T[b]?.getD 0 = 10 ∨ T[b]?.getD 0 = 13)
  | 0, s, b, _, e => by cases e
  | n + 1, s, b, h, e => by
    rw [eol] at e
    split at e
    · rename_i q; cases e; exact ⟨by omega, by omega, q⟩
    · have := eol_spec (T := T) (n := n) (s := s + 1) (b := b) (by omega) e
      exact ⟨by omega, this.2⟩

theorem forSearch3 {T : Array Nat} {n s : Nat} (h : s + n = T.size) :
    ∃ k, k ≤ 20 ∧ Ended (runFor k (forSearch code3 T 0 s T.size false)) (find3 T n s) := by
  rw [forSearch_eq]
  have h1 : header code3 = (1, 10) := by decide
  rw [h1]
  cases n with
  | zero =>
    obtain rfl : s = T.size := by omega
    refine ⟨1, by omega, ?_⟩
    simp [fresh0, h1, runFor, M.step, M.say, Ended, find3, eol]
  | succ n =>
    rw [if_neg (by simp; omega)]
    generalize hm : ({ fresh0 code3 T s with lastStart := _ } : M) = m
    have hcode : m.code = code3 := by subst hm; rfl
    have htext : m.text = T := by subst hm; rfl
    have hlim : m.lim = m.text.size := by subst hm; rfl
    have hl : m.lim + 1 - s = (n + 1) + 1 := by rw [hlim, htext]; omega
    obtain ⟨sn', e⟩ := admitted3 hcode hlim (n + 1) s m.seen (by rw [htext]; exact h)
    have hf : m.hasFirstSet = true := by subst hm; rfl
    rw [htext] at e
    rw [M.attemptFrom, hf, hl, e]
    cases he : eol T (n + 1) s with
    | none =>
      refine ⟨1, by omega, ?_⟩
      subst hm
      simp [fresh0, h1, runFor, M.step, M.say, Ended, find3, he]
    | some b =>
      obtain ⟨hb1, hb2, hb3⟩ := eol_spec h he
      have e2 : M.attemptAt { m with mustAdvance := false, seen := sn' } b true = st3 T b true sn' := by
        subst hm
        simp [fresh0, header, st3, M.attemptAt, M.attempt, code3, ops]
      obtain ⟨k, hk, hE⟩ := st3_ends (o := true) (sn := sn') hb2 hb3
      refine ⟨k, hk, ?_⟩
      show Ended (runFor k (M.attemptAt { m with mustAdvance := false, seen := sn' } b true)) _
      rw [e2, find3, he]
      exact hE
end R
end Mine
end

-- Sub1
section
open PySem PySem.W PyProof.Rows
set_option maxRecDepth 100000
set_option linter.unusedSimpArgs false
set_option linter.unusedVariables false
namespace Mine
namespace R
open PySem.Sre PySem.Builtin PySem.Builtin.Re

section
variable {M : Model} {A : Around} {E : Value → Shared → Prop} {s : Shared}

theorem wp_reDrive {Q : Sre.M → Shared → Prop} : ∀ (turns k : Nat) (m : Sre.M), k ≤ 4 * turns → 1 ≤ k → (Sre.M.runFor k m).outcome.isSome = true → Q (Sre.M.runFor k m) s → wpAny M A (reDrive turns m) Q E s
  | 0, k, m, h, h1, _, _ => by omega
  | turns + 1, k, m, h, h1, hd, hq => by
    unfold reDrive
    by_cases hk : k ≤ 4
    · have e : m.runFor reTurnSteps = Sre.M.runFor k m := by
        show Sre.M.runFor 4 m = _
        have : 4 = k + (4 - k) := by omega
        rw [this, runFor_add, runFor_done hd]
      simp only [e, hd, if_true]
      exact wpAny_pure hq
    · have e : Sre.M.runFor k m = Sre.M.runFor (k - 4) (m.runFor reTurnSteps) := by
        show _ = Sre.M.runFor (k - 4) (Sre.M.runFor 4 m)
        rw [← runFor_add]
        congr 1
        omega
      by_cases hd4 : (m.runFor reTurnSteps).outcome.isSome = true
      · simp only [hd4, if_true]
        rw [e, runFor_done hd4] at hq
        exact wpAny_pure hq
      · simp only [hd4, if_false]
        refine wpAny_bind (wpAny_rule ?_)
        rw [e] at hd hq
        exact wp_reDrive turns (k - 4) _ (by omega) (by omega) hd hq

theorem wp_rules {Q : PUnit → Shared → Prop} (f : Nat → Bool) (g : Nat → String) : ∀ (l : List Nat), Q ⟨⟩ s →
    wpAny M A (forIn l PUnit.unit fun i _ => if f i = true then (do rule (g i); pure (ForInStep.yield PUnit.unit)) else pure (ForInStep.yield PUnit.unit)) Q E s
  | [], hq => wpAny_pure hq
  | i :: r, hq => by
    rw [List.forIn_cons]
    by_cases h : f i = true
    · simp only [h, if_true]
      exact wpAny_bind (wpAny_bind (wpAny_rule (wpAny_pure (wp_rules f g r hq))))
    · simp only [h, if_false]
      exact wpAny_bind (wpAny_pure (wp_rules f g r hq))

theorem wp_reRunToEnd {m : Sre.M} {Q : Option Sre.M → Shared → Prop} {k : Nat} {r : Option (Nat × Nat)} (hk : k ≤ 2 ^ 30) (h1 : 1 ≤ k) (he : Ended (Sre.M.runFor k m) r)
    (hn : r = none → Q none s) (hs : ∀ b e, r = some (b, e) → ∀ m', m'.start = b → m'.handed = e → Q (some m') s) : wpAny M A (reRunToEnd m) Q E s := by
  unfold reRunToEnd
  refine wpAny_bind (wp_reDrive _ k m ?_ h1 (ended_done he) ?_)
  · exact Nat.le_trans hk (by decide)
  · refine wpAny_bind (wp_rules _ _ _ ?_)
    cases r with
    | none =>
      have e : (Sre.M.runFor k m).outcome = some .failed := he
      rw [e]
      exact wpAny_pure (hn rfl)
    | some x =>
      obtain ⟨b, e⟩ := x
      obtain ⟨e1, e2, e3⟩ : _ ∧ _ ∧ _ := he
      rw [e1]
      exact wpAny_pure (hs b e rfl _ e2 e3)

/-- what the search of a code over a text is -/
def Finds (code T : Array Nat) (find : Nat → Nat → Option (Nat × Nat)) : Prop :=
  ∀ n s, s + n = T.size → ∃ k, 1 ≤ k ∧ k ≤ 4 * n + 25 ∧ Ended (Sre.M.runFor k (forSearch code T 0 s T.size false)) (find n s)

theorem ended_pos {m : Sre.M} {k : Nat} {r : Option (Nat × Nat)} (h0 : m.outcome = none) (h : Ended (Sre.M.runFor k m) r) : 1 ≤ k := by
  cases k with
  | zero =>
    have := ended_done h
    rw [show Sre.M.runFor 0 m = m from rfl, h0] at this
    cases this
  | succ k => omega

theorem ended_more {m : Sre.M} {k : Nat} {r : Option (Nat × Nat)} (h : Ended (Sre.M.runFor k m) r) (j : Nat) : Ended (Sre.M.runFor (k + j) m) r := by
  rw [runFor_add, runFor_done (ended_done h)]
  exact h

theorem finds1 (T : Array Nat) : Finds code1 T (find1 T) := fun n s h => by
  obtain ⟨k, hk, he⟩ := forSearch1 h
  exact ⟨k + 1, by omega, by omega, ended_more he 1⟩
theorem finds3 (T : Array Nat) : Finds code3 T (find3 T) := fun n s h => by
  obtain ⟨k, hk, he⟩ := forSearch3 h
  exact ⟨k + 1, by omega, by omega, ended_more he 1⟩
end
end R
end Mine
end

-- Sub2
section
open PySem PySem.W PyProof.Rows
set_option maxRecDepth 100000
set_option linter.unusedSimpArgs false
set_option linter.unusedVariables false
namespace Mine
namespace R
open PySem.Sre PySem.Builtin PySem.Builtin.Re

/-- the text with each place found put another way: n turns at most, from p on -/
def subF (T : Array Nat) (find : Nat → Nat → Option (Nat × Nat)) (rep : List Nat) : (n p : Nat) → List Nat
  | 0, p => (T.extract p T.size).toList
  | n + 1, p => match find (T.size - p) p with
    | none => (T.extract p T.size).toList
    | some (b, e) => (T.extract p b).toList ++ rep ++ subF T find rep n e

theorem loop_plain : plainId "re.Pattern.sub.loop" = true := by decide +kernel
theorem loop_entry : entryFor table "re.Pattern.sub.loop" = some Builtin.«re.Pattern.sub.loop» := entryFor_of_tree (by kernel_rfl)

/-- the list's values bear the pieces -/
inductive Bears (mk : List Nat → Tok → Value) : List Value → List (List Nat) → Prop
  | nil : Bears mk [] []
  | snoc {vs : List Value} {ps : List (List Nat)} (p : List Nat) (t : Tok) : Bears mk vs ps → Bears mk (vs ++ [mk p t]) (ps ++ [p])

theorem Bears.len {mk : List Nat → Tok → Value} {vs : List Value} {ps : List (List Nat)} (h : Bears mk vs ps) : vs.length = ps.length := by
  induction h with
  | nil => rfl
  | snoc p t _ ih => simp [ih]

theorem wp_push {M : Model} {A : Around} {E : Value → Shared → Prop} {s : Shared} {L : Addr} {vs : List Value} {nn : Nat} {x : Value} {Q : Unit → Shared → Prop}
    (hl : s.heap.get? L = some { cls := .type "list", data := .seq vs.toArray nn }) (hz : vs.length ≤ 4000000)
    (h : ∀ h' n', h'.get? L = some { cls := .type "list", data := .seq (vs ++ [x]).toArray n' } → (∀ b o, b ≠ L → s.heap.get? b = some o → h'.get? b = some o) → Q () { s with heap := h' }) :
    wpAny M A (updateSeq L fun y => y.push x) Q E s := by
  have hz1 : vs.toArray.size ≤ sizeLine := by rw [List.size_toArray, sizeLine_eq]; omega
  have hz2 : (vs.toArray.push x).size ≤ sizeLine + 1 := by rw [Array.size_push]; omega
  refine wpAny_updateSeq hl rfl ?_ hz1 hz2
  refine h _ (nn + 1) ?_ fun b o hb e => (Heap.get?_update_other _ _ (Ne.symm hb)).trans e
  rw [Heap.get?_update_self _ hl rfl]
  simp [Obj.mapSeq]

section
variable {prog : Program} {w : World} {A : Around}

abbrev Tgt (pa : Addr) (string : Value) (code T : Array Nat) (kind : Nat) : ReTarget := { pattern := .ref pa, string := string, code := code, text := T, kind := kind, groups := 0, pos := 0, lim := T.size }

theorem sub_loop {R : Result → Shared → Prop} {pa L : Addr} {string repl : Value} {code T : Array Nat} {kind : Nat} {mk : List Nat → Tok → Value} {rep : List Nat} {rt : Tok} {find : Nat → Nat → Option (Nat × Nat)} {h₀ : Heap}
    (hT : T.size ≤ 1000000) (hF : Finds code T find) (hfind : ∀ n s b e, s + n = T.size → find n s = some (b, e) → s ≤ b ∧ b < e ∧ e ≤ T.size)
    (hrep : repl = mk rep rt) (hne : repl ≠ .none)
    (HW : ∀ (A : Around) (Q : ReTarget → Shared → Prop) (E : Value → Shared → Prop) (s : Shared), (∀ b o, h₀.get? b = some o → s.heap.get? b = some o) → Q (Tgt pa string code T kind) s → wpAny (model prog w) A (reWholeTarget (.ref pa) string) Q E s)
    (HL : ∀ (A : Around) (Q : Unit → Shared → Prop) (E : Value → Shared → Prop) (s : Shared), Q () s → wpAny (model prog w) A (reLiteralCannotBeTurned repl) Q E s)
    (HS : ∀ (b e : Nat) (A : Around) (Q : Value → Shared → Prop) (E : Value → Shared → Prop) (s : Shared), (∀ t k, Q (mk (T.extract b e).toList t) { s with toks := k }) → wpAny (model prog w) A (reSlice T kind b e) Q E s)
    (HJ : ∀ (A : Around) (Q : Value → Shared → Prop) (E : Value → Shared → Prop) (s : Shared) (vs : List Value) (ps : List (List Nat)) (t : Tok), vs ≠ [] → Bears mk vs ps → s.heap.IsList L vs.toArray → ps.flatten.length ≤ 8000000 → ps.length ≤ 8000000 →
      (∀ t k, Q (mk ps.flatten t) { s with toks := k }) → wpAny (model prog w) A (call (.builtin (if kind == 0 then "str.join" else "bytes.join")) [mk [] t, .ref L]) Q E s)
    (hL : h₀.get? L = none) :
    ∀ (n p c : Nat) (s : Shared) (vs : List Value) (ps : List (List Nat)) (nn : Nat), p ≤ T.size → T.size - p < n → Bears mk vs ps → ps.flatten.length + (subF T find rep n p).length ≤ 8000000 → vs.length + 2 * (T.size - p) ≤ 4000000 →
      (∀ b o, h₀.get? b = some o → s.heap.get? b = some o) → s.heap.get? L = some { cls := .type "list", data := .seq vs.toArray nn } →
      (∀ h' t k', (∀ b o, b ≠ L → s.heap.get? b = some o → h'.get? b = some o) → R (.ok (.ret (mk (ps.flatten ++ subF T find rep n p) t))) { s with heap := h', toks := k' }) →
      codeAny (model prog w) A (.builtin "re.Pattern.sub.loop" ⟨[.ref pa, string, repl, rawInt 0, rawInt 0, rawInt c, rawInt p, rawInt p, .bool false, .ref L, .bool false], []⟩) R s := by
  intro n
  induction n with
  | zero => intro p c s vs ps nn _ hlt; omega
  | succ n ih =>
    intro p c s vs ps nn hp hlt hB hlen hcnt hk hl hR
    refine codeAny_builtin loop_entry ?_
    rw [Around.under_plainId loop_plain _]
    unfold Builtin.«re.Pattern.sub.loop»
    dsimp only [rawInt]
    refine wpAny_bind (HW _ _ _ _ hk ?_)
    simp only [show ((0 : Int) == 0) = true from rfl, show ((0 : Int) != 0) = false from rfl, Bool.false_and, if_true, Bool.false_eq_true, if_false]
    refine wpAny_bind (HL _ _ _ _ ?_)
    refine wpAny_bind ?_
    obtain ⟨k, hk1, hk2, he⟩ := hF (T.size - p) p (by omega)
    unfold reNextFound
    refine wp_reRunToEnd (k := k) (by omega) hk1 (r := find (T.size - p) p) (by simpa using he) ?_ ?_
    · intro hn
      rw [subF, hn] at hlen hR
      dsimp only at hlen hR ⊢
      rw [Int.toNat_natCast]
      have fin : ∀ (s' : Shared) (ws : List Value) (qs : List (List Nat)) (n' : Nat), Bears mk ws qs → qs.flatten = ps.flatten ++ (T.extract p T.size).toList → ws.length ≤ 4000001 →
          s'.heap.get? L = some { cls := .type "list", data := .seq ws.toArray n' } → (∀ (b : Addr) (o : Obj), b ≠ L → s.heap.get? b = some o → s'.heap.get? b = some o) →
          s'.gens = s.gens → s'.drawn = s.drawn → s'.os = s.os →
          wpAny (model prog w) A.in1 (do
            let joiner ← reSlice T kind 0 0
            let __do_lift ← seqItems? (Value.ref L)
            if (__do_lift.getD #[]).isEmpty = true then do
                let __do_lift ← pure joiner
                ret __do_lift
              else do
                let __do_lift ← call (Value.builtin (if (kind == 0) = true then "str.join" else "bytes.join")) [joiner, Value.ref L]
                ret __do_lift)
            (fun fin s' => match fin with
              | Fin.done f => R (Except.ok f) s'
              | Fin.again c' => c'.quiet = true ∧ codeAny (model prog w) A c' R s')
            (fun e s' => R (Except.error e) s') s' := by
        intro s' ws qs n' hb hf hw hl' hkeep e1 e2 e3
        obtain ⟨hp', g', d', tk', os'⟩ := s'
        dsimp only at e1 e2 e3
        subst e1 e2 e3
        refine wpAny_bind (HS _ _ _ _ _ _ fun t k => ?_)
        refine wpAny_bind (wpAny_seqItems (o := { cls := .type "list", data := .seq ws.toArray n' }) hl' rfl ?_)
        have hlen' : qs.flatten.length ≤ 8000000 := by rw [hf, List.length_append]; exact hlen
        simp only [Option.getD_some, List.isEmpty_toArray]
        cases hwe : ws.isEmpty with
        | true =>
          simp only [if_true]
          refine wpAny_bind (wpAny_pure (wpAny_pure ?_))
          have : qs = [] := by
            have hl0 := hb.len
            rw [List.isEmpty_iff.mp hwe] at hl0
            exact List.length_eq_zero_iff.mp hl0.symm
          subst this
          have hR' := hR hp' t k hkeep
          rw [← hf] at hR'
          simpa using hR'
        | false =>
          simp only [Bool.false_eq_true, if_false]
          have e0 : (T.extract 0 0).toList = [] := by simp
          rw [e0]
          refine wpAny_bind (HJ _ _ _ _ ws qs _ (by intro q; rw [q] at hwe; cases hwe) hb ⟨_, hl', rfl, _, rfl⟩ hlen' (by rw [← hb.len]; omega) fun t' k' => ?_)
          refine wpAny_pure ?_
          have hR' := hR hp' t' k' hkeep
          rw [← hf] at hR'
          exact hR'
      by_cases hpt : p < T.size
      · rw [if_pos hpt]
        refine wpAny_bind (HS _ _ _ _ _ _ fun t k => ?_)
        refine wpAny_bind (wp_push (vs := vs) hl (by omega) fun h' n' hl' hk' => ?_)
        refine fin _ (vs ++ [mk (T.extract p T.size).toList t]) (ps ++ [(T.extract p T.size).toList]) n' (.snoc _ _ hB) (by simp) (by simp; omega) hl' hk' rfl rfl rfl
      · rw [if_neg hpt]
        refine fin s vs ps nn hB ?_ (by omega) hl (fun _ _ _ e => e) rfl rfl rfl
        have : p = T.size := by omega
        subst this
        simp
    · intro b e hs m' hb hm
      rw [subF, hs] at hlen hR
      dsimp only at hlen hR ⊢
      rw [Int.toNat_natCast]
      obtain ⟨f1, f2, f3⟩ := hfind _ _ _ _ (by omega) hs
      have hne' : (repl != Value.none) = true := by simpa using hne
      subst hb hm
      have hq : (m'.handed == m'.start) = false := by simp; omega
      have fin : ∀ (s' : Shared) (ws : List Value) (qs : List (List Nat)) (n' : Nat), Bears mk ws qs → qs.flatten = ps.flatten ++ (T.extract p m'.start).toList → ws.length ≤ vs.length + 1 →
          s'.heap.get? L = some { cls := .type "list", data := .seq ws.toArray n' } → (∀ (b : Addr) (o : Obj), b ≠ L → s.heap.get? b = some o → s'.heap.get? b = some o) →
          s'.gens = s.gens → s'.drawn = s.drawn → s'.os = s.os →
          wpAny (model prog w) A.in1 (do
            let item ← pure repl
            if (item != Value.none) = true then do
                updateSeq L fun x => x.push item
                again (Code.builtin "re.Pattern.sub.loop" { pos := [Value.ref pa, string, repl, Value.int 0 0, Value.int 0 0, Value.int (↑c + 1) 0, Value.int (↑m'.handed) 0, Value.int (↑m'.handed) 0, Value.bool (m'.handed == m'.start), Value.ref L, Value.bool false] })
              else
                again (Code.builtin "re.Pattern.sub.loop" { pos := [Value.ref pa, string, repl, Value.int 0 0, Value.int 0 0, Value.int (↑c + 1) 0, Value.int (↑m'.handed) 0, Value.int (↑m'.handed) 0, Value.bool (m'.handed == m'.start), Value.ref L, Value.bool false] }))
            (fun fin s' => match fin with
              | Fin.done f => R (Except.ok f) s'
              | Fin.again c' => c'.quiet = true ∧ codeAny (model prog w) A c' R s')
            (fun e s' => R (Except.error e) s') s' := by
        intro s' ws qs n' hb hf hw hl' hkeep e1 e2 e3
        obtain ⟨hp', g', d', tk', os'⟩ := s'
        dsimp only at e1 e2 e3
        subst e1 e2 e3
        refine wpAny_bind (wpAny_pure ?_)
        simp only [hne', if_true, hq]
        refine wpAny_bind (wp_push (vs := ws) hl' (by omega) fun h' n'' hl'' hk'' => ?_)
        refine wpAny_pure ⟨plainId_quiet loop_plain _, ?_⟩
        have hfl : (qs ++ [rep]).flatten = ps.flatten ++ ((T.extract p m'.start).toList ++ rep) := by simp [hf]
        refine ih m'.handed (c + 1) _ (ws ++ [repl]) (qs ++ [rep]) n'' f3 (by omega) ?_ ?_ ?_ ?_ hl'' ?_
        · subst hrep; exact .snoc _ _ hb
        · rw [hfl]; simp only [List.length_append] at hlen ⊢; omega
        · simp only [List.length_append, List.length_cons, List.length_nil]; omega
        · intro b o eo
          have hbL : b ≠ L := fun q => by rw [q, hL] at eo; cases eo
          exact hk'' b o hbL (hkeep b o hbL (hk b o eo))
        · intro h3 t3 k3 hk3
          rw [hfl]
          have hR' := hR h3 t3 k3 fun b o hbL eo => hk3 b o hbL (hk'' b o hbL (hkeep b o hbL eo))
          simpa only [List.append_assoc] using hR'
      by_cases hpt : p < m'.start
      · rw [if_pos hpt]
        refine wpAny_bind (HS _ _ _ _ _ _ fun t k => ?_)
        refine wpAny_bind (wp_push (vs := vs) hl (by omega) fun h' n' hl' hk' => ?_)
        refine fin _ (vs ++ [mk (T.extract p m'.start).toList t]) (ps ++ [(T.extract p m'.start).toList]) n' (.snoc _ _ hB) (by simp) (by simp) hl' hk' rfl rfl rfl
      · rw [if_neg hpt]
        refine fin s vs ps nn hB ?_ (by omega) hl (fun _ _ _ e => e) rfl rfl rfl
        have : p = m'.start := by omega
        rw [this]
        simp
end
end R
end Mine
end

-- Sub3
section
open PySem PySem.W PyProof.Rows
set_option maxRecDepth 100000
set_option linter.unusedSimpArgs false
set_option linter.unusedVariables false
namespace Mine
namespace R
open PySem.Sre PySem.Builtin PySem.Builtin.Re

theorem slot_sub : Slot "re.Pattern" "sub" "re.Pattern.sub" :=
  .of (owner := "re.Pattern") (n := "sub") (by rw [typeLookup_type, builtinLookup_eq_fast]; kernel_rfl) (by decide +kernel) (by decide +kernel) (by decide +kernel)
    (by first | exact .inl (by decide +kernel) | exact .inr (by decide +kernel)) (by rw [isSubtype_type]; kernel_rfl)
theorem type_sub : typeOf (.builtin "re.Pattern.sub") = pure (.type "method_descriptor") := by show builtinType _ = _; rw [builtinType_eq_fast]; kernel_rfl
theorem entry_sub : entryFor table "re.Pattern.sub" = some Builtin.«re.Pattern.sub» := entryFor_of_tree (by kernel_rfl)
theorem pa_re : PlainAttrs "re.Pattern" := ⟨⟨"object.__getattribute__", by rw [typeLookup_type, builtinLookup_eq_fast]; kernel_rfl, by decide +kernel⟩, by rw [typeLookup_type, builtinLookup_eq_fast]; kernel_rfl⟩
theorem owner_re : Manifest.owners.lookup (String.ofList ['n', 'r', 'e', 't', 't', 'a', 'P', '.', 'e', 'r'].reverse) = some Manifest.sig_re_Pattern := by kernel_rfl
theorem args_sub (a b c : Value) : argsOk "re.Pattern.sub" ⟨[a, b, c], []⟩ := by
  unfold argsOk; rw [signature?_of (id := "re.Pattern.sub") (n := ['b', 'u', 's']) (o := ['n', 'r', 'e', 't', 't', 'a', 'P', '.', 'e', 'r']) (by kernel_rfl) owner_re]; kernel_rfl
theorem named_sub (b c : Value) : reNamed "re.Pattern.sub" "sub" ["repl", "string", "count"] 2 [b, c] [] = pure [some b, some c, none] := by kernel_rfl
theorem str_no_call : typeLookup (.type "str") "__call__" = pure none := by rw [typeLookup_type, builtinLookup_eq_fast]; kernel_rfl
theorem bytes_no_call : typeLookup (.type "bytes") "__call__" = pure none := by rw [typeLookup_type, builtinLookup_eq_fast]; kernel_rfl
end R
end Mine
end

-- Sub4
section
open PySem PySem.W PyProof.Rows
set_option maxRecDepth 100000
set_option linter.unusedSimpArgs false
set_option linter.unusedVariables false
namespace Mine
namespace R
open PySem.Sre PySem.Builtin PySem.Builtin.Re

abbrev mkS (l : List Nat) (t : Tok) : Value := .str ⟨l.toArray⟩ t

/-- a pattern object with its code -/
structure PatAt (h : Heap) (pa ta : Addr) (code : Array Nat) (kind : Nat) : Prop where
  pat : ∃ o p fl, h.get? pa = some o ∧ o.cls = .type "re.Pattern" ∧ o.dict = none ∧ o.data = .fields #[p, fl, .int 0 0, .none, .none, .ref ta, .int kind 0]
  tup : ∃ o vs n, h.get? ta = some o ∧ o.data = .seq vs n ∧ (vs.map reRawOf).map (·.toNat) = code

theorem PatAt.keeps {h h' : Heap} {pa ta : Addr} {code : Array Nat} {kind : Nat} (P : PatAt h pa ta code kind) (hk : ∀ b o, h.get? b = some o → h'.get? b = some o) : PatAt h' pa ta code kind := by
  obtain ⟨⟨o, p, fl, h1, h2⟩, ⟨o', vs, n, h3, h4⟩⟩ := P
  exact ⟨⟨o, p, fl, hk _ _ h1, h2⟩, ⟨o', vs, n, hk _ _ h3, h4⟩⟩

section
variable {prog : Program} {w : World} {A : Around} {E : Value → Shared → Prop} {s : Shared}

theorem wp_target_str {pa ta : Addr} {code : Array Nat} {x : Str} {t : Tok} {Q : ReTarget → Shared → Prop} (P : PatAt s.heap pa ta code 0) (h : Q (Tgt pa (.str x t) code x.cps 0) s) :
    wpAny (model prog w) A (reWholeTarget (.ref pa) (.str x t)) Q E s := by
  obtain ⟨⟨o, p, fl, h1, h2, h2', h3⟩, ⟨o', vs, n, h4, h5, h6⟩⟩ := P
  unfold reWholeTarget
  refine wpAny_bind (wpAny_fieldsOf h1 h3 ?_)
  refine wpAny_bind ?_
  unfold reTextOf
  refine wpAny_bind (wpAny_pure ?_)
  refine wpAny_pure ?_
  dsimp only
  simp [reRawNat]
  unfold reNoCollectionInside
  simp
  refine wpAny_bind ?_
  unfold reRawItems
  refine wpAny_bind (wpAny_seqItems h4 h5 ?_)
  refine wpAny_pure ?_
  refine wpAny_pure ?_
  simp only [Option.getD_some]
  rw [h6]
  exact h

theorem bears_strs {vs : List Value} {ps : List (List Nat)} (h : Bears mkS vs ps) : StrsAre vs (ps.map fun p => (⟨p.toArray⟩ : Str)) := by
  have app : ∀ {a b : List Value} {c d : List Str}, StrsAre a c → StrsAre b d → StrsAre (a ++ b) (c ++ d) := by
    intro a b c d h1 h2
    induction h1 with
    | nil => exact h2
    | cons y t _ ih => exact .cons y t ih
  induction h with
  | nil => exact .nil
  | snoc p t _ ih => rw [List.map_append]; exact app ih (.cons _ _ .nil)

theorem join_flat : ∀ (ps : List (List Nat)), Txt.join (⟨([] : List Nat).toArray⟩ : Str) (ps.map fun p => (⟨p.toArray⟩ : Str)) = ⟨ps.flatten.toArray⟩ := by
  have key : ∀ (ps : List (List Nat)), Str.join (⟨([] : List Nat).toArray⟩ : Str) (ps.map fun p => (⟨p.toArray⟩ : Str)) = ⟨ps.flatten.toArray⟩ := by
    intro ps
    induction ps with
    | nil => rfl
    | cons p r ih =>
      cases r with
      | nil => simp [Str.join]
      | cons q r =>
        rw [List.map_cons, List.map_cons, Str.join]
        rw [← List.map_cons (f := fun (p : List Nat) => (⟨p.toArray⟩ : Str)), ih]
        · refine Str.ext' ?_
          rw [Str.cps_append, Str.cps_append]
          simp
        · intro q; cases q
  intro ps
  show Builtin.Str.glued _ _ = _
  rw [StrLaws.glued_eq_join]
  exact key ps

theorem wp_sub_str {pa ta : Addr} {code : Array Nat} {find : Nat → Nat → Option (Nat × Nat)} {x rep : Str} {t u : Tok} {Q : Value → Shared → Prop} (P : PatAt s.heap pa ta code 0) (hx : x.length ≤ 1000000)
    (hF : Finds code x.cps find) (hfind : ∀ n s b e, s + n = x.cps.size → find n s = some (b, e) → s ≤ b ∧ b < e ∧ e ≤ x.cps.size) (h92 : rep.cps.contains 92 = false)
    (hlen : (subF x.cps find rep.cps.toList (x.cps.size + 1) 0).length ≤ 8000000)
    (h : ∀ h' t k, (∀ b o, s.heap.get? b = some o → h'.get? b = some o) → Q (.str ⟨(subF x.cps find rep.cps.toList (x.cps.size + 1) 0).toArray⟩ t) { s with heap := h', toks := k }) :
    wpAny (model prog w) A (call (.builtin "re.Pattern.sub") [.ref pa, .str rep u, .str x t]) Q E s := by
  have hT : s.TypeIs (.ref pa) "re.Pattern" := by
    obtain ⟨⟨o, p, fl, h1, h2, _⟩, _⟩ := P
    exact ⟨o, h1, h2⟩
  refine wpAny_call (codeAny_call_builtin slot_sub.plain entry_sub (slot_sub.check _ _ _ _ _ _ _ _ hT (args_sub _ _ _) ?_))
  show wpAny _ _ (reSubstitute "re.Pattern.sub" "sub" false ⟨[.ref pa, .str rep u, .str x t], []⟩) _ _ _
  unfold reSubstitute
  dsimp only
  refine wpAny_bind (wpAny_of_eq (named_sub _ _) ?_)
  dsimp only
  refine wpAny_bind (wpAny_pure ?_)
  refine wpAny_bind (wpAny_specialOf (typeIs_str _ _ _) str_no_call ?_)
  simp only [Option.isSome_none, Bool.false_eq_true, if_false]
  refine wpAny_bind (wpAny_pure ?_)
  dsimp only
  refine wpAny_bind (wpAny_pure ?_)
  simp only [h92, Bool.not_false, if_true]
  refine wpAny_bind (wpAny_pure ?_)
  refine wpAny_bind (wpAny_holding (wp_target_str P ?_))
  simp only [show ((0 : Int) == 1) = false from rfl, Bool.false_eq_true, if_false]
  refine wpAny_bind (wpAny_newList ?_)
  refine wpAny_pure ⟨plainId_quiet loop_plain _, ?_⟩
  have hpush : ∀ (b : Addr) (o : Obj), s.heap.get? b = some o → (s.heap.push { cls := .type "list", data := .seq ([] : List Value).toArray }).get? b = some o := fun b o e => Heap.get?_push_of_some _ e
  have hnone : s.heap.get? s.heap.objs.size = none := by
    cases hq : s.heap.get? s.heap.objs.size with
    | none => rfl
    | some o => exact absurd (Heap.lt_size hq) (Nat.lt_irrefl _)
  refine sub_loop (h₀ := s.heap) (mk := mkS) (kind := 0) (rep := rep.cps.toList) (rt := u) (T := x.cps) (find := find) (code := code) hx hF hfind rfl (by intro q; cases q)
    (fun A Q E s' hk hq => wp_target_str (P.keeps hk) hq) (fun A Q E s' hq => ?_) (fun b e A Q E s' hq => ?_) (fun A Q E s' vs ps t hv0 hB hl h1 h2 hq => ?_) hnone (x.cps.size + 1) 0 0 _ [] [] 0 (Nat.zero_le _) (by omega) .nil
    (by simpa using hlen) (by show 0 + 2 * (x.cps.size - 0) ≤ 4000000; have : x.cps.size ≤ 1000000 := hx; omega) hpush (Heap.get?_push_size _ rfl) ?_
  · unfold reLiteralCannotBeTurned
    refine wpAny_bind (wpAny_pure ?_)
    exact wpAny_pure hq
  · show wpAny _ _ (mkStr ⟨x.cps.extract b e⟩) _ _ _
    refine wpAny_mkStr ?_ ?_
    · have := hq s'.toks (s'.toks + 1)
      simpa only [mkS, Array.toArray_toList] using this
    · show (x.cps.extract b e).size ≤ sizeLine
      rw [Array.size_extract, sizeLine_eq]
      have : x.cps.size ≤ 1000000 := hx
      omega
  · show wpAny _ _ (call (.builtin "str.join") [.str _ _, .ref _]) _ _ _
    refine join_list (ys := ps.map fun p => (⟨p.toArray⟩ : Str)) hl (by simpa using bears_strs hB) ?_ fun t' k => ?_
    · have e : ((ps.map fun p => (⟨p.toArray⟩ : Str)).map (·.length)).sum = ps.flatten.length := by
        rw [List.map_map, List.length_flatten]
        rfl
      rw [e]
      simp only [Str.length, List.size_toArray, List.length_nil, Nat.mul_zero]
      omega
    · rw [join_flat]
      exact hq t' k
  · intro h' t' k' hk'
    refine h h' t' k' fun b o e => ?_
    refine hk' b o ?_ (hpush b o e)
    exact Nat.ne_of_lt (Heap.lt_size e)
end
end R
end Mine
end

-- Sub5
section
open PySem PySem.W PyProof.Rows
set_option maxRecDepth 100000
set_option linter.unusedSimpArgs false
set_option linter.unusedVariables false
namespace Mine
namespace R
open PySem.Sre PySem.Builtin PySem.Builtin.Re PySem.Builtin.Bytes

abbrev mkB (l : List Nat) (t : Tok) : Value := .bytes (l.toArray.map (·.toUInt8)) t

theorem slot_bjoin : Slot "bytes" "join" "bytes.join" :=
  .of (owner := "bytes") (n := "join") (by rw [typeLookup_type, builtinLookup_eq_fast]; kernel_rfl) (by decide +kernel) (by decide +kernel) (by decide +kernel)
    (by first | exact .inl (by decide +kernel) | exact .inr (by decide +kernel)) (by rw [isSubtype_type]; kernel_rfl)
theorem entry_bjoin : entryFor table "bytes.join" = some Builtin.«bytes.join» := entryFor_of_tree (by kernel_rfl)
theorem args_bjoin (a b : Value) : argsOk "bytes.join" ⟨[a, b], []⟩ := by
  unfold argsOk; rw [signature?_of (id := "bytes.join") (n := ['n', 'i', 'o', 'j']) (o := ['s', 'e', 't', 'y', 'b']) (by kernel_rfl) PySem.W.FB.owner_bytes]; kernel_rfl

theorem take_eq (b : Array UInt8) (t : Tok) : takeBufferQuiet? "bytes.join" (.bytes b t) 0 = pure (some (b, none)) := by
  unfold takeBufferQuiet? takeBuffer?
  rw [KBy.special_eq KBy.look_buffer, KBy.own_buffer, show buffer? "bytes.join" (Value.bytes b t) (0 == fullReadOnly) = pure (some b) from KBy.buffer_eq]
  kernel_rfl
theorem self_eq (a b : Value) : selfAndOne "bytes.join" ⟨[a, b], []⟩ = pure (a, b) := by kernel_rfl
section
variable {prog : Program} {w : World} {A : Around} {E : Value → Shared → Prop} {s : Shared}

theorem wp_range {β : Type} {M : Model} {n : Nat} {b0 : β} {f : Nat → β → Sem (ForInStep β)} {Q : β → Shared → Prop} (I : Nat → β → Prop) (h0 : I 0 b0)
    (hs : ∀ (i : Nat) (b : β) (Q' : ForInStep β → Shared → Prop), i < n → I i b → (∀ b', I (i + 1) b' → Q' (.yield b') s) → wpAny M A (f i b) Q' E s)
    (hq : ∀ b, I n b → Q b s) : wpAny M A (forIn [:n] b0 f) Q E s := by
  rw [Std.Legacy.Range.forIn_eq_forIn_range']
  have key : ∀ (k i : Nat) (b : β), i + k = n → I i b → wpAny M A (forIn (List.range' i k) b f) Q E s := by
    intro k
    induction k with
    | zero => intro i b h hI; obtain rfl : i = n := by omega
              exact wpAny_pure (hq b hI)
    | succ k ih =>
      intro i b h hI
      rw [List.range'_succ, List.forIn_cons]
      refine wpAny_bind (hs i b _ (by omega) hI fun b' hb' => ?_)
      exact ih (i + 1) b' (by omega) hb'
  have e : ([:n] : Std.Legacy.Range).size = n := by simp [Std.Legacy.Range.size]
  rw [e]
  exact key n 0 b0 (by omega) h0

theorem wp_joinLetGo {M : Model} {Q : Unit → Shared → Prop} (keep : List Value) : ∀ (l : List Value), Q () s → wpAny M A (joinLetGo (l.map fun v => (v, none)) keep) Q E s
  | [], h => wpAny_pure h
  | v :: r, h => by
    rw [List.map_cons]
    unfold joinLetGo
    dsimp only
    refine wpAny_bind (wpAny_letGo ?_)
    exact wp_joinLetGo keep r h

theorem Bears.at {mk : List Nat → Tok → Value} {vs : List Value} {ps : List (List Nat)} (h : Bears mk vs ps) : ∀ i, i < vs.length → ∃ p t, ps[i]? = some p ∧ vs[i]? = some (mk p t) := by
  induction h with
  | nil => intro i hi; simp at hi
  | @snoc vs ps p t hb ih =>
    intro i hi
    rw [List.length_append, List.length_cons, List.length_nil] at hi
    by_cases h' : i < vs.length
    · obtain ⟨q, u, h1, h2⟩ := ih i h'
      exact ⟨q, u, by rw [List.getElem?_append_left (by rw [← hb.len]; exact h')]; exact h1, by rw [List.getElem?_append_left h']; exact h2⟩
    · have e : i = vs.length := by omega
      subst e
      exact ⟨p, t, by rw [hb.len, List.getElem?_append_right (Nat.le_refl _)]; simp, by rw [List.getElem?_append_right (Nat.le_refl _)]; simp⟩

abbrev toB (p : List Nat) : Array UInt8 := p.toArray.map (·.toUInt8)

theorem joined_nil (ps : List (List Nat)) : joined #[] (ps.map toB) = toB ps.flatten := by
  unfold joined
  have key : ∀ (l : List (List Nat)) (k : Nat) (a : Array UInt8), ((l.map toB).zipIdx k).foldl (fun out (x : Array UInt8 × Nat) => (if x.2 > 0 then out ++ #[] else out) ++ x.1) a = a ++ toB l.flatten := by
    intro l
    induction l with
    | nil => intro k a; simp [toB]
    | cons p r ih =>
      intro k a
      rw [List.map_cons, List.zipIdx_cons, List.foldl_cons, ih]
      simp [toB]
  have := key ps 0 #[]
  simpa using this

theorem fold_size (ps : List (List Nat)) (k : Nat) : ((ps.map toB).toArray).foldl (fun x1 x2 => x1 + x2.size) k = k + ps.flatten.length := by
  rw [List.foldl_toArray]
  induction ps generalizing k with
  | nil => simp
  | cons p r ih =>
    rw [List.map_cons, List.foldl_cons, ih]
    simp [toB]
    omega

theorem wp_bjoin {L : Addr} {vs : List Value} {ps : List (List Nat)} {t : Tok} {Q : Value → Shared → Prop} (hv0 : vs ≠ []) (hB : Bears mkB vs ps) (hl : s.heap.IsList L vs.toArray) (h1 : ps.flatten.length ≤ 8000000) (h2 : ps.length ≤ 8000000)
    (hq : ∀ t k, Q (mkB ps.flatten t) { s with toks := k }) : wpAny (model prog w) A (call (.builtin "bytes.join") [mkB [] t, .ref L]) Q E s := by
  have hT : s.TypeIs (mkB [] t) "bytes" := rfl
  refine wpAny_call (codeAny_call_builtin slot_bjoin.plain entry_bjoin (slot_bjoin.check _ _ _ _ _ _ _ _ hT (args_bjoin _ _) ?_))
  show wpAny _ _ (joinM .bytes ⟨[mkB [] t, .ref L], []⟩) _ _ _
  unfold joinM
  dsimp only
  rw [show (toString Kind.bytes.name ++ toString ".join") = "bytes.join" from rfl]
  refine wpAny_bind (wpAny_of_eq (self_eq _ _) ?_)
  refine bm_if_true rfl ?_
  refine wpAny_bind ?_
  unfold joinItems
  refine wpAny_bind (wpAny_typeOf hl.typeIs ?_)
  refine bm_if_true rfl ?_
  refine wpAny_pure ?_
  obtain ⟨o, ho, hc, n, hd⟩ := id hl
  refine wpAny_bind (wpAny_seqItems ho hd ?_)
  refine bm_if_true rfl ?_
  have hlen := hB.len
  match vs, hv0, hB, hl, hd, hlen with
  | [v], _, hB, hl, hd, hlen =>
    obtain ⟨p, u, hp, hv⟩ := hB.at 0 (by simp)
    have e1 : v = mkB p u := by simpa using hv
    have e2 : ps = [p] := by
      match ps, hlen, hp with
      | [q], _, hp => simpa using hp
    subst e1 e2
    refine wpAny_bind (wpAny_typeOf (T := "bytes") rfl ?_)
    refine bm_if_true rfl ?_
    refine wpAny_bind (wpAny_rule (wpAny_pure ?_))
    have := hq u s.toks
    rw [show [p].flatten = p by simp] at this
    exact this
  | [], hv0, _, _, _, _ => exact absurd rfl hv0
  | v1 :: v2 :: r, _, hB, hl, hd, hlen =>
    refine wpAny_bind ?_
    generalize v1 :: v2 :: r = ws at hB hl hd hlen ⊢
    refine wp_range (fun i b => b = (((ps.take i).map toB).toArray, (ws.take i).map fun v => (v, none))) (by simp) (fun i b Q' hi hI hq' => ?_) fun b hb => ?_
    · subst hI
      obtain ⟨p, u, hp, hv⟩ := hB.at i (by simpa using hi)
      refine wpAny_bind (wpAny_seqItems ho hd ?_)
      have hg : ws.toArray.getD i .none = mkB p u := by simp [hv]
      dsimp only
      rw [hg]
      refine bm_if_false ?_ ?_
      · have h0 : ((ws.take i).map fun v => (v, (none : Option Value))).any (fun x => x.1.onHeap) = false := by
          rw [List.any_map, List.any_eq_false]
          intro v hv
          obtain ⟨j, hj, rfl⟩ := List.mem_iff_getElem.mp (List.mem_of_mem_take hv)
          obtain ⟨q, u', _, h2'⟩ := hB.at j hj
          rw [List.getElem?_eq_getElem hj] at h2'
          simp only [Function.comp]
          rw [Option.some.inj h2']
          simp [Value.onHeap]
        rw [show (Kind.bytes == Kind.bytearray) = false from rfl, Bool.false_or]
        exact h0
      refine wpAny_bind (wpAny_holding (wpAny_of_eq (take_eq _ _) ?_))
      dsimp only
      refine wpAny_bind (wpAny_seqItems ho hd ?_)
      dsimp only
      refine bm_if_false (by simp) ?_
      refine wpAny_pure (hq' _ ?_)
      rw [List.take_add_one, List.take_add_one, hp, hv]
      simp
    · subst hb
      rw [show ws.toArray.size = ws.length from List.size_toArray]
      rw [List.take_length, hlen, List.take_length]
      refine wpAny_bind (wpAny_pure ?_)
      dsimp only
      refine bm_if_false ?_ ?_
      · rw [fold_size]
        generalize ps.flatten.length = N at h1 ⊢
        simp only [tooLong, sizeLine_eq]
        simp
        omega
      refine wpAny_bind ?_
      show wpAny _ _ (mkBytes _) _ _ _
      refine wpAny_mkBytes ?_ ?_
      · refine wpAny_bind (wpAny_holding (wpAny_point ?_))
        refine wpAny_bind (wp_joinLetGo _ _ ?_)
        refine wpAny_pure ?_
        have := hq s.toks (s.toks + 1)
        rw [show joined (Array.map (fun x => x.toUInt8) ([] : List Nat).toArray) (List.map toB ps).toArray.toList = toB ps.flatten from by simpa using joined_nil ps]
        exact this
      · rw [show joined (Array.map (fun x => x.toUInt8) ([] : List Nat).toArray) (List.map toB ps).toArray.toList = toB ps.flatten from by simpa using joined_nil ps]
        rw [sizeLine_eq]
        have : (toB ps.flatten).size = ps.flatten.length := by simp only [toB, Array.size_map, List.size_toArray]
        omega

theorem wp_target_bytes {pa ta : Addr} {code : Array Nat} {l : List Nat} {t : Tok} {Q : ReTarget → Shared → Prop} (hl : ∀ c ∈ l, c < 256) (P : PatAt s.heap pa ta code 1) (h : Q (Tgt pa (mkB l t) code l.toArray 1) s) :
    wpAny (model prog w) A (reWholeTarget (.ref pa) (mkB l t)) Q E s := by
  obtain ⟨⟨o, p, fl, h1, h2, h2', h3⟩, ⟨o', vs, n, h4, h5, h6⟩⟩ := P
  unfold reWholeTarget
  refine wpAny_bind (wpAny_fieldsOf h1 h3 ?_)
  refine wpAny_bind ?_
  unfold reTextOf
  refine wpAny_bind (wpAny_bind (wpAny_pure (wpAny_pure ?_)))
  refine wpAny_bind (wpAny_of_eq KBy.quiet_eq ?_)
  refine wpAny_pure ?_
  dsimp only
  refine bm_if_false (by rfl) ?_
  refine bm_if_false (by rfl) ?_
  refine wpAny_bind ?_
  unfold reNoCollectionInside
  refine bm_if_true rfl ?_
  refine wpAny_bind (wpAny_of_eq KBy.isInstance_eq ?_)
  refine bm_if_false rfl ?_
  refine wpAny_pure ?_
  refine wpAny_bind ?_
  unfold reRawItems
  refine wpAny_bind ?_
  show wpAny _ _ (seqItems? (.ref ta)) _ _ _
  refine wpAny_seqItems h4 h5 ?_
  refine wpAny_pure ?_
  refine wpAny_pure ?_
  simp only [Option.getD_some]
  rw [h6]
  have e : Array.map (fun x : UInt8 => x.toNat) (Array.map (fun x : Nat => x.toUInt8) l.toArray) = l.toArray := by
    rw [Array.map_map, List.map_toArray]
    congr 1
    have : ∀ (l : List Nat), (∀ c ∈ l, c < 256) → l.map ((fun x : UInt8 => x.toNat) ∘ fun x : Nat => x.toUInt8) = l := by
      intro l
      induction l with
      | nil => intro _; rfl
      | cons c r ih =>
        intro hc
        rw [List.map_cons, ih fun d hd => hc d (List.mem_cons_of_mem _ hd)]
        congr 1
        have := hc c (List.mem_cons_self ..)
        simp [Function.comp]
        omega
    exact this l hl
  rw [e]
  exact h

theorem mem_extract {l : List Nat} {b e c : Nat} (h : c ∈ (l.toArray.extract b e).toList) : c ∈ l := by
  simp [List.extract_eq_take_drop] at h
  exact List.mem_of_mem_drop (List.mem_of_mem_take h)

theorem wp_sub_bytes {pa ta : Addr} {code : Array Nat} {find : Nat → Nat → Option (Nat × Nat)} {l rep : List Nat} {t u : Tok} {Q : Value → Shared → Prop} (P : PatAt s.heap pa ta code 1) (hx : l.length ≤ 1000000) (hb : ∀ c ∈ l, c < 256)
    (hF : Finds code l.toArray find) (hfind : ∀ n s b e, s + n = l.toArray.size → find n s = some (b, e) → s ≤ b ∧ b < e ∧ e ≤ l.toArray.size) (h92 : (toB rep).contains 92 = false)
    (hlen : (subF l.toArray find rep (l.length + 1) 0).length ≤ 8000000)
    (h : ∀ h' t k, (∀ b o, s.heap.get? b = some o → h'.get? b = some o) → Q (mkB (subF l.toArray find rep (l.length + 1) 0) t) { s with heap := h', toks := k }) :
    wpAny (model prog w) A (call (.builtin "re.Pattern.sub") [.ref pa, mkB rep u, mkB l t]) Q E s := by
  have hT : s.TypeIs (.ref pa) "re.Pattern" := by
    obtain ⟨⟨o, p, fl, h1, h2, _⟩, _⟩ := P
    exact ⟨o, h1, h2⟩
  have hTb : ∀ (l : List Nat) (t : Tok) (s : Shared), s.TypeIs (mkB l t) "bytes" := fun _ _ _ => rfl
  refine wpAny_call (codeAny_call_builtin slot_sub.plain entry_sub (slot_sub.check _ _ _ _ _ _ _ _ hT (args_sub _ _ _) ?_))
  show wpAny _ _ (reSubstitute "re.Pattern.sub" "sub" false ⟨[.ref pa, mkB rep u, mkB l t], []⟩) _ _ _
  unfold reSubstitute
  dsimp only
  refine wpAny_bind (wpAny_of_eq (named_sub _ _) ?_)
  dsimp only
  refine wpAny_bind (wpAny_pure ?_)
  refine wpAny_bind (wpAny_specialOf (hTb _ _ _) bytes_no_call ?_)
  simp only [Option.isSome_none, Bool.false_eq_true, if_false]
  refine wpAny_bind (wpAny_bind (wpAny_pure (wpAny_pure ?_)))
  dsimp only
  refine wpAny_bind (wpAny_of_eq KBy.quiet_eq ?_)
  dsimp only
  refine wpAny_bind (wpAny_pure ?_)
  simp only [h92, Bool.not_false, if_true]
  refine wpAny_bind (wpAny_pure ?_)
  refine wpAny_bind (wpAny_holding (wp_target_bytes hb P ?_))
  simp only [show ((0 : Int) == 1) = false from rfl, Bool.false_eq_true, if_false]
  refine wpAny_bind (wpAny_newList ?_)
  refine wpAny_pure ⟨plainId_quiet loop_plain _, ?_⟩
  have hpush : ∀ (b : Addr) (o : Obj), s.heap.get? b = some o → (s.heap.push { cls := .type "list", data := .seq ([] : List Value).toArray }).get? b = some o := fun b o e => Heap.get?_push_of_some _ e
  have hnone : s.heap.get? s.heap.objs.size = none := by
    cases hq : s.heap.get? s.heap.objs.size with
    | none => rfl
    | some o => exact absurd (Heap.lt_size hq) (Nat.lt_irrefl _)
  refine sub_loop (h₀ := s.heap) (mk := mkB) (kind := 1) (rep := rep) (rt := u) (T := l.toArray) (find := find) (code := code) (by simpa using hx) hF hfind rfl (by intro q; cases q)
    (fun A Q E s' hk hq => wp_target_bytes hb (P.keeps hk) hq) (fun A Q E s' hq => ?_) (fun b e A Q E s' hq => ?_) (fun A Q E s' vs ps t hv0 hB hl h1 h2 hq => ?_) hnone (l.length + 1) 0 0 _ [] [] 0 (Nat.zero_le _) (by simp) .nil
    (by simpa using hlen) (by show 0 + 2 * (l.toArray.size - 0) ≤ 4000000; rw [List.size_toArray]; omega) hpush (Heap.get?_push_size _ rfl) ?_
  · unfold reLiteralCannotBeTurned
    refine wpAny_bind (wpAny_bind (wpAny_pure (wpAny_pure ?_)))
    refine bm_if_true rfl ?_
    refine wpAny_bind (wpAny_of_eq KBy.isInstance_eq ?_)
    refine bm_if_false rfl ?_
    exact wpAny_pure hq
  · show wpAny _ _ (mkBytes ((l.toArray.extract b e).map (·.toUInt8))) _ _ _
    refine wpAny_mkBytes ?_ ?_
    · have := hq s'.toks (s'.toks + 1)
      simpa only [mkB, Array.toArray_toList] using this
    · rw [Array.size_map, Array.size_extract, sizeLine_eq, List.size_toArray]
      omega
  · exact wp_bjoin hv0 hB hl h1 h2 hq
  · intro h' t' k' hk'
    refine h h' t' k' fun b o e => ?_
    refine hk' b o ?_ (hpush b o e)
    exact Nat.ne_of_lt (Heap.lt_size e)
end
end R
end Mine
end

-- Plain1
section
set_option linter.unusedSimpArgs false
set_option linter.unusedVariables false
namespace Mine
namespace R

/-- every line end as both signs -/
def fixE : List Nat → List Nat
  | [] => []
  | 13 :: 10 :: r => 13 :: 10 :: fixE r
  | c :: r => if c = 13 ∨ c = 10 then 13 :: 10 :: fixE r else c :: fixE r

/-- a dot that begins a row is doubled; b: a row begins here -/
def dots : Bool → List Nat → List Nat
  | _, [] => []
  | b, c :: r => if b = true ∧ c = 46 then 46 :: 46 :: dots false r else c :: dots (c == 10) r

theorem drop_at {l : List Nat} {p : Nat} (h : p < l.length) : l.drop p = l[p]?.getD 0 :: l.drop (p + 1) := by
  rw [List.drop_eq_getElem_cons h, List.getElem?_eq_getElem h]; rfl

theorem ext_toList (l : List Nat) (p b : Nat) : (l.toArray.extract p b).toList = (l.drop p).take (b - p) := by
  simp [List.extract_eq_take_drop]

theorem bol_next (l : List Nat) (p : Nat) : decide (Bol l.toArray (p + 1)) = (l[p]?.getD 0 == 10) := by
  rw [Bool.eq_iff_iff, decide_eq_true_iff, beq_iff_eq, Bol]
  simp

theorem dots_find {l : List Nat} : ∀ (n p : Nat), p + n = l.length → match find1 l.toArray n p with
    | none => dots (decide (Bol l.toArray p)) (l.drop p) = l.drop p
    | some (b, e) => p ≤ b ∧ b < l.length ∧ e = b + 1 ∧ l[b]?.getD 0 = 46 ∧ dots (decide (Bol l.toArray p)) (l.drop p) = (l.drop p).take (b - p) ++ [46, 46] ++ dots false (l.drop (b + 1))
  | 0, p, h => by
    have : l.drop p = [] := by rw [List.drop_eq_nil_iff]; omega
    rw [find1]
    simp only [this, dots]
  | n + 1, p, h => by
    have hp : p < l.length := by omega
    rw [find1]
    split
    · rename_i x heq
      split at heq
      · cases heq
      · rename_i hc
        have ih := dots_find (l := l) n (p + 1) (by omega)
        rw [heq] at ih
        dsimp only at ih
        rw [drop_at hp, dots, if_neg (by simpa [Bol] using hc)]
        congr 1
        rw [← bol_next]
        exact ih
    · rename_i x b e heq
      split at heq
      · rename_i hc
        cases heq
        refine ⟨Nat.le_refl _, hp, rfl, by simpa using hc.2, ?_⟩
        rw [drop_at hp, dots, if_pos (by simpa [Bol] using hc)]
        simp
      · rename_i hc
        have ih := dots_find (l := l) n (p + 1) (by omega)
        rw [heq] at ih
        dsimp only at ih
        obtain ⟨i1, i2, i3, i4, i5⟩ := ih
        refine ⟨by omega, i2, i3, i4, ?_⟩
        have e1 : b - p = (b - (p + 1)) + 1 := by omega
        rw [drop_at hp, dots, if_neg (by simpa [Bol] using hc), e1, List.take_succ_cons]
        simp only [List.cons_append]
        congr 1
        rw [← i5, bol_next]

theorem sub_dots {l : List Nat} : ∀ (n p : Nat), p ≤ l.length → l.length - p < n → subF l.toArray (find1 l.toArray) [46, 46] n p = dots (decide (Bol l.toArray p)) (l.drop p)
  | 0, p, _, h => by omega
  | n + 1, p, hp, h => by
    have hd := dots_find (l := l) (l.length - p) p (by omega)
    rw [subF, show l.toArray.size = l.length from List.size_toArray]
    cases hf : find1 l.toArray (l.length - p) p with
    | none =>
      rw [hf] at hd
      dsimp only at hd ⊢
      rw [hd, ext_toList, List.take_of_length_le (by simp)]
    | some x =>
      obtain ⟨b, e⟩ := x
      rw [hf] at hd
      dsimp only at hd ⊢
      obtain ⟨i1, i2, i3, i4, i5⟩ := hd
      subst i3
      rw [i5, ext_toList, sub_dots n (b + 1) (by omega) (by omega), bol_next, i4]
      rfl

theorem sub_dots0 (l : List Nat) : subF l.toArray (find1 l.toArray) [46, 46] (l.length + 1) 0 = dots true l := by
  rw [sub_dots _ _ (by omega) (by omega)]
  rfl

theorem find1_spec {T : Array Nat} : ∀ (n s b e : Nat), s + n = T.size → find1 T n s = some (b, e) → s ≤ b ∧ b < e ∧ e ≤ T.size
  | 0, s, b, e, _, h => by cases h
  | n + 1, s, b, e, h, q => by
    rw [find1] at q
    split at q
    · cases q; omega
    · have := find1_spec n (s + 1) b e (by omega) q
      omega

theorem find3_spec {T : Array Nat} (n s b e : Nat) (h : s + n = T.size) (q : find3 T n s = some (b, e)) : s ≤ b ∧ b < e ∧ e ≤ T.size := by
  unfold find3 at q
  obtain ⟨b', h1, h2⟩ := Option.map_eq_some_iff.mp q
  cases h2
  have := eol_spec h h1
  unfold eolEnd
  split <;> omega

theorem fixE_cons_other {c : Nat} {r : List Nat} (h1 : c ≠ 10) (h2 : c ≠ 13) : fixE (c :: r) = c :: fixE r := by
  rw [fixE, if_neg (by omega)]
  intro r' q; exact absurd q h2
theorem fixE_lf (r : List Nat) : fixE (10 :: r) = 13 :: 10 :: fixE r := by
  rw [fixE, if_pos (by omega)]
  intro r' q; cases q
theorem fixE_crlf (r : List Nat) : fixE (13 :: 10 :: r) = 13 :: 10 :: fixE r := by
  rw [fixE]
theorem fixE_cr {r : List Nat} (h : ∀ r', r ≠ 10 :: r') : fixE (13 :: r) = 13 :: 10 :: fixE r := by
  rw [fixE, if_pos (by omega)]
  intro r' _ q; exact h r' q

theorem fixE_eol {l : List Nat} : ∀ (n p : Nat), p + n = l.length → match eol l.toArray n p with
    | none => fixE (l.drop p) = l.drop p
    | some b => fixE (l.drop p) = (l.drop p).take (b - p) ++ fixE (l.drop b)
  | 0, p, h => by
    have : l.drop p = [] := by rw [List.drop_eq_nil_iff]; omega
    rw [eol]
    simp only [this, fixE]
  | n + 1, p, h => by
    have hp : p < l.length := by omega
    have ih := fixE_eol (l := l) n (p + 1) (by omega)
    rw [eol]
    by_cases hc : l.toArray[p]?.getD 0 = 10 ∨ l.toArray[p]?.getD 0 = 13
    · rw [if_pos hc]
      simp
    · rw [if_neg hc]
      have h1 : l[p]?.getD 0 ≠ 10 := fun q => hc (.inl (by simpa using q))
      have h2 : l[p]?.getD 0 ≠ 13 := fun q => hc (.inr (by simpa using q))
      cases he : eol l.toArray n (p + 1) with
      | none =>
        rw [he] at ih
        dsimp only at ih ⊢
        rw [drop_at hp, fixE_cons_other h1 h2, ih]
      | some b =>
        have hb := eol_spec (T := l.toArray) (n := n) (s := p + 1) (b := b) (by simpa using by omega) he
        rw [he] at ih
        dsimp only at ih ⊢
        have e1 : b - p = (b - (p + 1)) + 1 := by omega
        rw [e1, drop_at hp, fixE_cons_other h1 h2, ih, List.take_succ_cons]
        rfl

theorem sub_fix {l : List Nat} : ∀ (n p : Nat), p ≤ l.length → l.length - p < n → subF l.toArray (find3 l.toArray) [13, 10] n p = fixE (l.drop p)
  | 0, p, _, h => by omega
  | n + 1, p, hp, h => by
    have hd := fixE_eol (l := l) (l.length - p) p (by omega)
    rw [subF, show l.toArray.size = l.length from List.size_toArray, find3]
    cases hf : eol l.toArray (l.length - p) p with
    | none =>
      rw [hf] at hd
      dsimp only [Option.map_none] at hd ⊢
      rw [hd, ext_toList, List.take_of_length_le (by simp)]
    | some b =>
      rw [hf] at hd
      dsimp only [Option.map_some] at hd ⊢
      have hb := eol_spec (T := l.toArray) (n := l.length - p) (s := p) (b := b) (by simpa using by omega) hf
      obtain ⟨b1, b2, b3⟩ := hb
      have b2' : b < l.length := by simpa using b2
      rw [hd, ext_toList]
      have he : eolEnd l.toArray b ≤ l.length ∧ b < eolEnd l.toArray b := by
        unfold eolEnd
        simp only [List.size_toArray]
        split <;> omega
      rw [sub_fix n (eolEnd l.toArray b) he.1 (by omega)]
      have key : fixE (l.drop b) = [13, 10] ++ fixE (l.drop (eolEnd l.toArray b)) := by
        unfold eolEnd
        by_cases hc : l.toArray[b]?.getD 0 = 13 ∧ b + 1 < l.toArray.size ∧ l.toArray[b + 1]?.getD 0 = 10
        · rw [if_pos hc]
          obtain ⟨c1, c2, c3⟩ := hc
          rw [drop_at b2', drop_at (by simpa using c2)]
          simp only [List.getElem?_toArray] at c1 c3
          rw [c1, c3, fixE_crlf]
          rfl
        · rw [if_neg hc, drop_at b2']
          simp only [List.getElem?_toArray, List.size_toArray] at b3 hc
          rcases b3 with b3 | b3
          · rw [b3, fixE_lf]; rfl
          · rw [b3, fixE_cr]
            · rfl
            · intro r' hr
              refine hc ⟨b3, ?_, ?_⟩
              · have : (l.drop (b + 1)).length ≠ 0 := by rw [hr]; simp
                rw [List.length_drop] at this
                omega
              · by_cases hb1 : b + 1 < l.length
                · rw [drop_at hb1] at hr
                  exact (List.cons.inj hr).1
                · have : l.drop (b + 1) = [] := by rw [List.drop_eq_nil_iff]; omega
                  rw [this] at hr
                  cases hr
      rw [key, ← List.append_assoc]

theorem sub_fix0 (l : List Nat) : subF l.toArray (find3 l.toArray) [13, 10] (l.length + 1) 0 = fixE l := sub_fix _ _ (by omega) (by omega)
end R
end Mine
end

-- HdTop
section
open PySem PySem.W PyProof.Rows
set_option Elab.async false
set_option maxRecDepth 100000
set_option maxHeartbeats 8000000
namespace Mine
open_top hd for PySem.Challenge.rw_pe0100_01
end Mine
end

-- Base
section
open PySem PySem.W PyProof.Rows
set_option Elab.async false
set_option maxRecDepth 100000
set_option maxHeartbeats 8000000
namespace Mine
noncomputable abbrev PG : Program := Challenge.rw_pe0100_01.row.prog
noncomputable abbrev VW : Program := hd.view_39
noncomputable abbrev LS : List Str := looseW hd.view_39 [Str.ofString "_twin_re_1", Str.ofString "_twin_re_2", Str.ofString "_twin_re_3"]

/-- what holds where a def is called -/
abbrev Claim (f : Addr) (vs : List Value) (pre : Prop) (R : Tok → Value) : Prop :=
  ∀ (w : World) (s₀ : Shared) (mg mb : Str → Option Value) (news : List (Addr × Obj)),
    CbClaim PG w (hd.heap_39 w.params) VW LS (ExcName.means s₀.heap) mg mb f news [] pre vs R
end Mine
end

-- SubK
section
open PySem PySem.W PyProof.Rows
set_option Elab.async false
set_option maxRecDepth 100000
set_option maxHeartbeats 8000000
namespace Mine
open R

theorem pat3 {P : Params} {h : Heap} (X : (hd.heap_39 P).In h) : PatAt h 46 45 code3 0 :=
  ⟨⟨_, _, _, X 46 _ rfl, rfl, rfl, rfl⟩, ⟨_, _, _, X 45 _ rfl, rfl, by decide +kernel⟩⟩
theorem pat1 {P : Params} {h : Heap} (X : (hd.heap_39 P).In h) : PatAt h 36 35 code1 0 :=
  ⟨⟨_, _, _, X 36 _ rfl, rfl, rfl, rfl⟩, ⟨_, _, _, X 35 _ rfl, rfl, by decide +kernel⟩⟩
theorem pat2 {P : Params} {h : Heap} (X : (hd.heap_39 P).In h) : PatAt h 41 40 code1 1 :=
  ⟨⟨_, _, _, X 41 _ rfl, rfl, rfl, rfl⟩, ⟨_, _, _, X 40 _ rfl, rfl, by decide +kernel⟩⟩

/-- a text by its signs -/
abbrev S (l : List Nat) : Str := ⟨l.toArray⟩
theorem S_of (x : Str) : x = S x.cps.toList := by cases x; simp [S]

section
variable {prog : Program} {w : World} {A : Around} {E : Value → Shared → Prop} {s : Shared} {P : Params} {L : Addr} {h₀ : Heap} {m : Str → Option Value} {news : List (Addr × Obj)}

theorem get_sub {M : Model} {pa ta : Addr} {code : Array Nat} {kind : Nat} {pl : Sem Bool} {Q : Value × List Value → Shared → Prop} (hp : PatAt s.heap pa ta code kind) (h : Q (.builtin "re.Pattern.sub", [.ref pa]) s) : wpAny M A (getMethod (.ref pa) (Str.ofString "sub") pl) Q E s := by
  obtain ⟨⟨o, p, fl, h1, h2, h2', h3⟩, _⟩ := hp
  exact getMethod_builtin ⟨o, h1, h2⟩ pa_re slot_sub type_sub (fun a e => by cases e; exact ⟨o, h1, h2'⟩) h
theorem get_sub3 {M : Model} {pl : Sem Bool} {Q : Value × List Value → Shared → Prop} (F : Fr h₀ L s.heap m) (X : (hd.heap_39 P).In h₀) (h : Q (.builtin "re.Pattern.sub", [.ref 46]) s) : wpAny M A (getMethod (.ref 46) (Str.ofString "sub") pl) Q E s :=
  get_sub (pat3 (X.keeps F.keep)) h
theorem get_sub1 {M : Model} {pl : Sem Bool} {Q : Value × List Value → Shared → Prop} (F : Fr h₀ L s.heap m) (X : (hd.heap_39 P).In h₀) (h : Q (.builtin "re.Pattern.sub", [.ref 36]) s) : wpAny M A (getMethod (.ref 36) (Str.ofString "sub") pl) Q E s :=
  get_sub (pat1 (X.keeps F.keep)) h
theorem get_sub2 {M : Model} {pl : Sem Bool} {Q : Value × List Value → Shared → Prop} (F : Fr h₀ L s.heap m) (X : (hd.heap_39 P).In h₀) (h : Q (.builtin "re.Pattern.sub", [.ref 41]) s) : wpAny M A (getMethod (.ref 41) (Str.ofString "sub") pl) Q E s :=
  get_sub (pat2 (X.keeps F.keep)) h

theorem fixE_len : ∀ (n : Nat) (l : List Nat), l.length ≤ n → (fixE l).length ≤ 2 * l.length
  | 0, l, h => by
    have : l = [] := List.length_eq_zero_iff.mp (by omega)
    subst this; simp [fixE]
  | n + 1, l, h => by
    match l with
    | [] => simp [fixE]
    | c :: r =>
      simp only [List.length_cons] at h
      by_cases h1 : c = 13
      · subst h1
        match r with
        | [] => rw [fixE_cr (by intro r' q; cases q)]; simp [fixE]
        | d :: r' =>
          simp only [List.length_cons] at h
          by_cases h2 : d = 10
          · subst h2
            rw [fixE_crlf]
            have := fixE_len n r' (by omega)
            simp only [List.length_cons]; omega
          · rw [fixE_cr (by intro r'' q; exact h2 (List.cons.inj q).1)]
            have := fixE_len n (d :: r') (by simp only [List.length_cons]; omega)
            simp only [List.length_cons] at this ⊢; omega
      · by_cases h2 : c = 10
        · subst h2
          rw [fixE_lf]
          have := fixE_len n r (by omega)
          simp only [List.length_cons]; omega
        · rw [fixE_cons_other h2 h1]
          have := fixE_len n r (by omega)
          simp only [List.length_cons]; omega
theorem dots_len : ∀ (b : Bool) (l : List Nat), (dots b l).length ≤ 2 * l.length
  | _, [] => by simp [dots]
  | b, c :: r => by
    rw [dots]
    split
    · have := dots_len false r
      simp only [List.length_cons]; omega
    · have := dots_len (c == 10) r
      simp only [List.length_cons]; omega

theorem call_fix {l : List Nat} {t u : Tok} {Q : Value → Shared → Prop} (F : Fr h₀ L s.heap m) (X : (hd.heap_39 P).In h₀) (N : News h₀ L s.heap news) (hx : l.length ≤ 1000000)
    (h : ∀ h' t k, Fr h₀ L h' m → News h₀ L h' news → Q (.str (S (fixE l)) t) { s with heap := h', toks := k }) :
    wpAny (model prog w) A (call (.builtin "re.Pattern.sub") [.ref 46, .str (Str.ofString "\r\n") u, .str (S l) t]) Q E s := by
  have e : (Str.ofString "\r\n").cps.toList = [13, 10] := by decide +kernel
  have e2 : subF (S l).cps (find3 (S l).cps) (Str.ofString "\r\n").cps.toList ((S l).cps.size + 1) 0 = fixE l := by
    rw [e]; simpa using sub_fix0 l
  refine wp_sub_str (pat3 (X.keeps F.keep)) (by simpa [Str.length] using hx) (finds3 _) find3_spec (by decide +kernel) ?_ fun h' t k hk => ?_
  · rw [e2]
    have := fixE_len l.length l (Nat.le_refl _)
    omega
  · rw [e2]
    exact h h' t k (F.keeps hk) (N.grown hk)
theorem call_dots {l : List Nat} {t u : Tok} {Q : Value → Shared → Prop} (F : Fr h₀ L s.heap m) (X : (hd.heap_39 P).In h₀) (N : News h₀ L s.heap news) (hx : l.length ≤ 1000000)
    (h : ∀ h' t k, Fr h₀ L h' m → News h₀ L h' news → Q (.str (S (dots true l)) t) { s with heap := h', toks := k }) :
    wpAny (model prog w) A (call (.builtin "re.Pattern.sub") [.ref 36, .str (Str.ofString "..") u, .str (S l) t]) Q E s := by
  have e : (Str.ofString "..").cps.toList = [46, 46] := by decide +kernel
  have e2 : subF (S l).cps (find1 (S l).cps) (Str.ofString "..").cps.toList ((S l).cps.size + 1) 0 = dots true l := by
    rw [e]; simpa using sub_dots0 l
  refine wp_sub_str (pat1 (X.keeps F.keep)) (by simpa [Str.length] using hx) (finds1 _) find1_spec (by decide +kernel) ?_ fun h' t k hk => ?_
  · rw [e2]
    have := dots_len true l
    omega
  · rw [e2]
    exact h h' t k (F.keeps hk) (N.grown hk)
theorem call_dotsB {l : List Nat} {t u : Tok} {b2 : Array UInt8} {Q : Value → Shared → Prop} (F : Fr h₀ L s.heap m) (X : (hd.heap_39 P).In h₀) (N : News h₀ L s.heap news) (hx : l.length ≤ 1000000 ∧ ∀ c ∈ l, c < 256) (hb2 : b2 = toB [46, 46])
    (h : ∀ h' t k, Fr h₀ L h' m → News h₀ L h' news → Q (mkB (dots true l) t) { s with heap := h', toks := k }) :
    wpAny (model prog w) A (call (.builtin "re.Pattern.sub") [.ref 41, .bytes b2 u, mkB l t]) Q E s := by
  subst hb2
  refine wp_sub_bytes (rep := [46, 46]) (pat2 (X.keeps F.keep)) hx.1 hx.2 (finds1 _) find1_spec (by decide +kernel) ?_ fun h' t k hk => ?_
  · rw [sub_dots0]
    have := dots_len true l
    have := hx.1
    omega
  · rw [sub_dots0]
    exact h h' t k (F.keeps hk) (N.grown hk)
end
end Mine
end

-- C67
section
open PySem PySem.W PyProof.Rows
set_option Elab.async false
set_option maxRecDepth 100000
set_option maxHeartbeats 8000000
namespace Mine
local macro_rules | `(tactic| walk_at "getMethod ref") => `(tactic| (k_here; (with_reducible show wpAny _ _ (getMethod (Value.ref _) (PySem.Str.ofString "sub") _) _ _ _); k_dflt (first | (refine' get_sub3 ?k1 ?k2 ?_; (case k1 => k_asm); (case k2 => k_asm); k_whole) | (refine' get_sub1 ?k1 ?k2 ?_; (case k1 => k_asm); (case k2 => k_asm); k_whole) | (refine' get_sub2 ?k1 ?k2 ?_; (case k1 => k_asm); (case k2 => k_asm); k_whole))))
local macro_rules | `(tactic| walk_at "call builtin:re.Pattern.sub") => `(tactic| (k_here; k_dflt (first | (refine' call_fix ?k1 ?k2 ?k3 ?k4 ?_; (case k1 => k_asm); (case k2 => k_asm); (case k3 => k_asm); (case k4 => first | assumption | omega)) | (refine' call_dots ?k1 ?k2 ?k3 ?k4 ?_; (case k1 => k_asm); (case k2 => k_asm); (case k3 => k_asm); (case k4 => first | assumption | omega)) | (refine' call_dotsB ?k1 ?k2 ?k3 ?k4 ?k5 ?_; (case k1 => k_asm); (case k2 => k_asm); (case k3 => k_asm); (case k4 => assumption); (case k5 => decide +kernel))); intro h' t' k' F' N'))
theorem c67 (l : List Nat) (t : Tok) : Claim 67 [.str (S l) t] (l.length ≤ 1000000) (fun t => .str (S (R.fixE l)) t) := by
  dsimp only [Claim, CbClaim, CbLists, CbRet, PG, VW, LS]
  k_fill
  intros
  rename_i hret
  refine wpAny_call ?_
  k_dflt cell_enter
  k_steps
  all_goals cb_end hret
theorem c53 (l : List Nat) (t : Tok) : Claim 53 [.str (S l) t] (l.length ≤ 1000000 ∧ (R.fixE l).length ≤ 1000000) (fun t => .str (S (R.dots true (R.fixE l))) t) := by
  dsimp only [Claim, CbClaim, CbLists, CbRet, PG, VW, LS]
  k_fill
  intros
  rename_i hpre _ _ hret
  obtain ⟨hp1, hp2⟩ := hpre
  refine wpAny_call ?_
  k_dflt cell_enter
  k_steps
  all_goals cb_end hret
theorem c60 (l : List Nat) (t : Tok) : Claim 60 [R.mkB l t] (l.length ≤ 1000000 ∧ ∀ c ∈ l, c < 256) (fun t => R.mkB (R.dots true l) t) := by
  dsimp only [Claim, CbClaim, CbLists, CbRet, PG, VW, LS]
  k_fill
  intros
  rename_i hret
  refine wpAny_call ?_
  k_dflt cell_enter
  k_steps
  all_goals exact hret _ _ _ (by k_asm) (by k_asm)
end Mine
end

-- Esc1
section
open PySem PySem.W PyProof.Rows
set_option Elab.async false
set_option maxRecDepth 100000
set_option maxHeartbeats 8000000
namespace Mine

/-- each sign c put another way -/
def rep1 (c : Nat) (z : List Nat) (l : List Nat) : List Nat := l.flatMap fun x => if x = c then z else [x]

theorem rep1_free {c : Nat} {z l : List Nat} (h : c ∉ l) : rep1 c z l = l := by
  unfold rep1
  induction l with
  | nil => rfl
  | cons x r ih =>
    have h1 : x ≠ c := fun e => h (e ▸ List.mem_cons_self ..)
    have h2 : c ∉ r := fun m => h (List.mem_cons_of_mem _ m)
    rw [List.flatMap_cons, if_neg h1, ih h2]
    rfl
theorem rep1_append (c : Nat) (z a b : List Nat) : rep1 c z (a ++ b) = rep1 c z a ++ rep1 c z b := by simp [rep1]
theorem rep1_self (c : Nat) (z : List Nat) : rep1 c z [c] = z := by simp [rep1]

theorem rep1_join (c : Nat) (z : Str) : ∀ parts : List Str, (∀ p ∈ parts, c ∉ p.cps.toList) → rep1 c z.cps.toList (Str.join ⟨#[c]⟩ parts).cps.toList = (Str.join z parts).cps.toList
  | [], _ => rfl
  | [p], h => rep1_free (h p (List.mem_singleton.mpr rfl))
  | p :: q :: r, h => by
    have ih := rep1_join c z (q :: r) fun a ha => h a (List.mem_cons_of_mem _ ha)
    show rep1 c _ (p ++ ⟨#[c]⟩ ++ Str.join ⟨#[c]⟩ (q :: r)).cps.toList = (p ++ z ++ Str.join z (q :: r)).cps.toList
    simp only [Str.cps_append, Array.toList_append]
    rw [rep1_append, rep1_append, ih, rep1_free (h p (List.mem_cons_self ..))]
    show p.cps.toList ++ rep1 c _ [c] ++ _ = _
    rw [rep1_self]

theorem replace_rep1 (x z : Str) (c : Nat) : Txt.replace x ⟨#[c]⟩ z = S (rep1 c z.cps.toList x.cps.toList) := by
  have := rep1_join c z _ (StrLaws.split_free x c)
  rw [StrLaws.join_split] at this
  rw [StrLaws.replace_one, this]

section
variable {prog : Program} {w : World} {A : Around} {E : Value → Shared → Prop} {s : Shared} {name : Str} {scope : Scope} {L a : Addr} {cd : Value} {h₀ : Heap} {m : Str → Option Value} {news : List (Addr × Obj)}

theorem if_rep {c : Nat} {z l : List Nat} {cs zs : Str} {t : Tok} {k1 k2 k3 : Nat} {p1 p2 p3 p4 p5 p6 p7 p8 p9 p10 p11 : Pos} {pl : Sem Bool} {Q : Flow → Shared → Prop}
    (F : Fr h₀ L s.heap m) (N : News h₀ L s.heap news) (hm : m (Str.ofString "text") = some (.str (S l) t)) (ht : 0 < s.toks) (hl : l.length ≤ 2000000) (hz : z.length ≤ 6) (hcs : cs = S [c]) (hzs : zs = S z) (hne : (cs == zs) = false)
    (h : ∀ h' t' k, Fr h₀ L h' (fun y => if y = Str.ofString "text" then some (.str (S (rep1 c z l)) t') else m y) → News h₀ L h' news → 0 < k → Q .next { s with heap := h', toks := k })
    (hk : scope.kind = .function := by rfl) (hloc : (envOf name scope L a cd).kindOf (Str.ofString "text") = some .local := by rfl)
    (he : eval (.Call (.Attribute (.Name (Str.ofString "text") p5) (Str.ofString "replace") p6) [.Constant (.str cs) k2 p7, .Constant (.str zs) k3 p8] [] p9) (envOf name scope L a cd) = (do
      let ov ← eval (.Name (Str.ofString "text") p5) (envOf name scope L a cd)
      standAt p6.atName
      let (f, first) ← holding [ov] (getMethod ov (Str.ofString "replace") pl)
      callWith p9 f first (backTo p9 (starEach [.Constant (.str cs) k2 p7, .Constant (.str zs) k3 p8] (envOf name scope L a cd))) []) := by rfl) :
    wpAny (model prog w) A (exec (.If (.Compare (.Constant (.str cs) k1 p1) [.In] [.Name (Str.ofString "text") p2] p3)
      [.Assign [.Name (Str.ofString "text") p4] (.Call (.Attribute (.Name (Str.ofString "text") p5) (Str.ofString "replace") p6) [.Constant (.str cs) k2 p7, .Constant (.str zs) k3 p8] [] p9) p10] [] p11) (envOf name scope L a cd)) Q E s := by
  refine wpAny_If ?_
  refine wpAny_isTrue_Compare1 ?_
  refine Calls.Constant_str ?_
  refine ld F hm ?_ hk hloc (by decide +kernel)
  refine in_str ?_
  refine wpAny_truthy_bool ?_
  subst hcs hzs
  have hfo := StrLaws.found_one (S l) c
  rw [show (S [c]) = (⟨#[c]⟩ : Str) from rfl, hfo]
  by_cases hin : c ∈ (S l).cps.toList
  · rw [if_pos (decide_eq_true hin)]
    refine wpAny_execs_cons ?_
    refine wpAny_Assign_Name ?_
    refine MethodCall_ ?_ he
    refine ld F hm ?_ hk hloc (by decide +kernel)
    refine GM.replace ?_
    refine callWith_method1 ?_
    refine args_cons ?_
    refine Calls.Constant_str ?_
    refine args_cons ?_
    refine Calls.Constant_str ?_
    refine args_nil ?_
    show wpAny _ _ (call (Value.builtin "str.replace") [Value.str (S l) t, Value.str ⟨#[c]⟩ (s.toks + 1), Value.str (S z) (s.toks + 1 + 1)]) _ _ _
    have hzl : (S z).length ≤ 6 := by simpa [Str.length] using hz
    have hll : (S l).length ≤ 2000000 := by simpa [Str.length] using hl
    have hm1 : ((S l).length + 1) * (S z).length ≤ ((S l).length + 1) * 6 := Nat.mul_le_mul_left _ hzl
    refine SC.replace (by simp) (by simp) (by simp) hne (by omega) fun t' k => ?_
    rw [replace_rep1]
    refine stN F N (fun h' F' N' => ?_) hk hloc
    refine wpAny_execs_nil ?_
    have e1 : (S z).cps.toList = z := by simp
    have e2 : (S l).cps.toList = l := by simp
    rw [e1, e2] at F'
    exact h h' t' _ F' N' (Nat.succ_pos _)
  · rw [if_neg (by simpa using hin)]
    refine wpAny_execs_nil ?_
    have e : rep1 c z l = l := rep1_free (by simpa using hin)
    have h1 := h s.heap t (s.toks + 1)
    rw [e] at h1
    have e2 : (fun y => if y = Str.ofString "text" then some (Value.str (S l) t) else m y) = m := by
      funext y
      by_cases hy : y = Str.ofString "text"
      · rw [if_pos hy, hy, hm]
      · rw [if_neg hy]
    rw [e2] at h1
    exact h1 F N (by omega)
end
end Mine
end

-- Esc2
section
open PySem PySem.W PyProof.Rows
set_option Elab.async false
set_option maxRecDepth 100000
set_option maxHeartbeats 8000000
namespace Mine

abbrev Tab := List (Nat × List Nat)
/-- a sign's spelling by a table -/
def tab (cz : Tab) (x : Nat) : List Nat := (cz.lookup x).getD [x]

theorem flat_nil (l : List Nat) : l.flatMap (tab []) = l := by
  induction l with
  | nil => rfl
  | cons x r ih => rw [List.flatMap_cons, ih]; rfl

theorem tab_snoc {cz : Tab} {c : Nat} {z : List Nat} (h : ∀ p ∈ cz, c ∉ p.2) (x : Nat) : rep1 c z (tab cz x) = tab (cz ++ [(c, z)]) x := by
  unfold tab
  rw [List.lookup_append]
  cases he : cz.lookup x with
  | some z' =>
    have hm : (x, z') ∈ cz := by
      clear h
      induction cz with
      | nil => cases he
      | cons p r ih =>
        obtain ⟨a, b⟩ := p
        rw [List.lookup_cons] at he
        split at he
        · rename_i q
          cases he
          rw [beq_iff_eq.mp q]
          exact List.mem_cons_self ..
        · exact List.mem_cons_of_mem _ (ih he)
    exact rep1_free (h _ hm)
  | none =>
    show rep1 c z [x] = _
    simp only [rep1, List.flatMap_cons, List.flatMap_nil, List.append_nil, List.lookup_cons, List.lookup_nil]
    by_cases hx : x = c
    · subst hx; simp
    · have : (x == c) = false := by simpa using hx
      rw [if_neg hx, this]; rfl

theorem rep1_flat {cz : Tab} {c : Nat} {z l : List Nat} (h : ∀ p ∈ cz, c ∉ p.2) : rep1 c z (l.flatMap (tab cz)) = l.flatMap (tab (cz ++ [(c, z)])) := by
  unfold rep1
  rw [List.flatMap_assoc]
  have e : (fun x => (tab cz x).flatMap fun x => if x = c then z else [x]) = tab (cz ++ [(c, z)]) := funext fun x => tab_snoc h x
  rw [e]

theorem tab_len {cz : Tab} (h : ∀ p ∈ cz, p.2.length ≤ 6) (x : Nat) : (tab cz x).length ≤ 6 := by
  unfold tab
  cases he : cz.lookup x with
  | none => simp
  | some z' =>
    show z'.length ≤ 6
    induction cz with
    | nil => cases he
    | cons p r ih =>
      obtain ⟨a, b⟩ := p
      rw [List.lookup_cons] at he
      split at he
      · cases he; exact h _ (List.mem_cons_self ..)
      · exact ih (fun q hq => h q (List.mem_cons_of_mem _ hq)) he
theorem flat_len {f : Nat → List Nat} (h : ∀ x, (f x).length ≤ 6) (l : List Nat) : (l.flatMap f).length ≤ 6 * l.length := by
  induction l with
  | nil => simp
  | cons x r ih =>
    rw [List.flatMap_cons, List.length_append, List.length_cons]
    have := h x
    omega

def tabOk (cz : Tab) (c : Nat) : Bool := cz.all fun p => !p.2.contains c && decide (p.2.length ≤ 6)

section
variable {prog : Program} {w : World} {A : Around} {E : Value → Shared → Prop} {s : Shared} {name : Str} {scope : Scope} {L a : Addr} {cd : Value} {h₀ : Heap} {m : Str → Option Value} {news : List (Addr × Obj)}

theorem if_tab {cz : Tab} {c : Nat} {z l : List Nat} {cs zs : Str} {t : Tok} {k1 k2 k3 : Nat} {p1 p2 p3 p4 p5 p6 p7 p8 p9 p10 p11 : Pos} {pl : Sem Bool} {Q : Flow → Shared → Prop}
    (F : Fr h₀ L s.heap m) (N : News h₀ L s.heap news) (hm : m (Str.ofString "text") = some (.str (S (l.flatMap (tab cz))) t)) (ht : 0 < s.toks) (hl : l.length ≤ 300000)
    (hcs : cs = S [c]) (hzs : zs = S z) (hne : (cs == zs) = false) (hz : z.length ≤ 6) (hok : tabOk cz c = true)
    (h : ∀ h' t' k, Fr h₀ L h' (fun y => if y = Str.ofString "text" then some (.str (S (l.flatMap (tab (cz ++ [(c, z)])))) t') else m y) → News h₀ L h' news → 0 < k → Q .next { s with heap := h', toks := k })
    (hk : scope.kind = .function := by rfl) (hloc : (envOf name scope L a cd).kindOf (Str.ofString "text") = some .local := by rfl)
    (he : eval (.Call (.Attribute (.Name (Str.ofString "text") p5) (Str.ofString "replace") p6) [.Constant (.str cs) k2 p7, .Constant (.str zs) k3 p8] [] p9) (envOf name scope L a cd) = (do
      let ov ← eval (.Name (Str.ofString "text") p5) (envOf name scope L a cd)
      standAt p6.atName
      let (f, first) ← holding [ov] (getMethod ov (Str.ofString "replace") pl)
      callWith p9 f first (backTo p9 (starEach [.Constant (.str cs) k2 p7, .Constant (.str zs) k3 p8] (envOf name scope L a cd))) []) := by rfl) :
    wpAny (model prog w) A (exec (.If (.Compare (.Constant (.str cs) k1 p1) [.In] [.Name (Str.ofString "text") p2] p3)
      [.Assign [.Name (Str.ofString "text") p4] (.Call (.Attribute (.Name (Str.ofString "text") p5) (Str.ofString "replace") p6) [.Constant (.str cs) k2 p7, .Constant (.str zs) k3 p8] [] p9) p10] [] p11) (envOf name scope L a cd)) Q E s := by
  have hall : ∀ p ∈ cz, c ∉ p.2 ∧ p.2.length ≤ 6 := fun p hp => by
    have := List.all_eq_true.mp hok p hp
    simp at this
    exact this
  have hlen : (l.flatMap (tab cz)).length ≤ 6 * l.length := flat_len (tab_len fun p hp => (hall p hp).2) l
  refine if_rep F N hm ht (by omega) hz hcs hzs hne (fun h' t' k F' N' hk' => ?_) hk hloc he
  rw [rep1_flat fun p hp => (hall p hp).1] at F'
  exact h h' t' k F' N' hk'
end

theorem gen_toks {α : Type} {M : Model} {A : Around} {t : Sem α} {Q : α → Shared → Prop} {E : Value → Shared → Prop} {h : Heap} {g : Array GenState} {d : Drawn} {n : Nat} {os : OsState} (hn : 0 < n)
    (hh : ∀ k, 0 < k → wpAny M A t Q E ⟨h, g, d, k, os⟩) : wpAny M A t Q E ⟨h, g, d, n, os⟩ := hh n hn

theorem lit_amp : Str.ofString "&" = S [38] := by decide +kernel
theorem lit_lt : Str.ofString "<" = S [60] := by decide +kernel
theorem lit_gt : Str.ofString ">" = S [62] := by decide +kernel
theorem lit_quo : Str.ofString "\"" = S [34] := by decide +kernel
theorem lit_cr : Str.ofString "\r" = S [13] := by decide +kernel
theorem lit_lf : Str.ofString "\n" = S [10] := by decide +kernel
theorem lit_ht : Str.ofString "\t" = S [9] := by decide +kernel
theorem lit_amp5 : Str.ofString "&amp;" = S [38, 97, 109, 112, 59] := by decide +kernel
theorem lit_lt4 : Str.ofString "&lt;" = S [38, 108, 116, 59] := by decide +kernel
theorem lit_gt4 : Str.ofString "&gt;" = S [38, 103, 116, 59] := by decide +kernel
theorem lit_quot6 : Str.ofString "&quot;" = S [38, 113, 117, 111, 116, 59] := by decide +kernel
theorem lit_c13 : Str.ofString "&#13;" = S [38, 35, 49, 51, 59] := by decide +kernel
theorem lit_c10 : Str.ofString "&#10;" = S [38, 35, 49, 48, 59] := by decide +kernel
theorem lit_c09 : Str.ofString "&#09;" = S [38, 35, 48, 57, 59] := by decide +kernel
theorem lit_xD : Str.ofString "&#xD;" = S [38, 35, 120, 68, 59] := by decide +kernel
theorem lit_xA : Str.ofString "&#xA;" = S [38, 35, 120, 65, 59] := by decide +kernel
theorem lit_x9 : Str.ofString "&#x9;" = S [38, 35, 120, 57, 59] := by decide +kernel

def amp : List Nat := [38, 97, 109, 112, 59]
def tab0 : Tab := [(38, amp), (60, [38, 108, 116, 59]), (62, [38, 103, 116, 59])]
def tab1 : Tab := tab0 ++ [(34, [38, 113, 117, 111, 116, 59]), (13, [38, 35, 49, 51, 59]), (10, [38, 35, 49, 48, 59]), (9, [38, 35, 48, 57, 59])]
def tab2 : Tab := [(38, amp), (62, [38, 103, 116, 59]), (34, [38, 113, 117, 111, 116, 59])]
def tab3 : Tab := tab0 ++ [(13, [38, 35, 120, 68, 59])]
def tab4 : Tab := [(38, amp), (60, [38, 108, 116, 59]), (34, [38, 113, 117, 111, 116, 59]), (9, [38, 35, 120, 57, 59]), (10, [38, 35, 120, 65, 59]), (13, [38, 35, 120, 68, 59])]
end Mine
end

-- C81
section
open PySem PySem.W PyProof.Rows
set_option Elab.async false
set_option maxRecDepth 100000
set_option maxHeartbeats 8000000
namespace Mine
local macro_rules | `(tactic| walk_at "exec If") => `(tactic| (k_here; k_dflt (refine' if_tab ?k1 ?k2 ?k3 ?k4 ?k5 ?k6 ?k7 ?k8 ?k9 ?k10 ?_; (case k1 => k_asm); (case k2 => k_asm); (case k3 => first | rfl | exact if_pos rfl); (case k4 => first | assumption | (dsimp only; omega)); (case k5 => assumption); (case k6 => first | with_reducible exact lit_amp | with_reducible exact lit_lt | with_reducible exact lit_gt | with_reducible exact lit_quo | with_reducible exact lit_cr | with_reducible exact lit_lf | with_reducible exact lit_ht); (case k7 => first | with_reducible exact lit_amp5 | with_reducible exact lit_lt4 | with_reducible exact lit_gt4 | with_reducible exact lit_quot6 | with_reducible exact lit_c13 | with_reducible exact lit_c10 | with_reducible exact lit_c09 | with_reducible exact lit_xD | with_reducible exact lit_xA | with_reducible exact lit_x9); (case k8 => decide +kernel); (case k9 => decide +kernel); (case k10 => decide +kernel)); intro h' t' k' F' N' hk'))
theorem c81 (l : List Nat) (t : Tok) : Claim 81 [.str (S l) t] (l.length ≤ 300000) (fun t => .str (S (l.flatMap (tab tab0))) t) := by
  rw [show S l = S (l.flatMap (tab [])) by rw [flat_nil]]
  dsimp only [Claim, CbClaim, CbLists, CbRet, PG, VW, LS]
  k_fill
  intros
  rename_i hret
  refine wpAny_call ?_
  k_dflt cell_enter
  refine gen_toks (Nat.succ_pos _) ?_
  intro k0 hk0
  k_steps
  all_goals cb_end hret
theorem c88 (l : List Nat) (t : Tok) : Claim 88 [.str (S l) t] (l.length ≤ 300000) (fun t => .str (S (l.flatMap (tab tab1))) t) := by
  rw [show S l = S (l.flatMap (tab [])) by rw [flat_nil]]
  dsimp only [Claim, CbClaim, CbLists, CbRet, PG, VW, LS]
  k_fill
  intros
  rename_i hret
  refine wpAny_call ?_
  k_dflt cell_enter
  refine gen_toks (Nat.succ_pos _) ?_
  intro k0 hk0
  k_steps
  all_goals cb_end hret
theorem c95 (l : List Nat) (t : Tok) : Claim 95 [.str (S l) t] (l.length ≤ 300000) (fun t => .str (S (l.flatMap (tab tab2))) t) := by
  rw [show S l = S (l.flatMap (tab [])) by rw [flat_nil]]
  dsimp only [Claim, CbClaim, CbLists, CbRet, PG, VW, LS]
  k_fill
  intros
  rename_i hret
  refine wpAny_call ?_
  k_dflt cell_enter
  refine gen_toks (Nat.succ_pos _) ?_
  intro k0 hk0
  k_steps
  all_goals cb_end hret
theorem c102 (l : List Nat) (t : Tok) : Claim 102 [.str (S l) t] (l.length ≤ 300000) (fun t => .str (S (l.flatMap (tab tab3))) t) := by
  rw [show S l = S (l.flatMap (tab [])) by rw [flat_nil]]
  dsimp only [Claim, CbClaim, CbLists, CbRet, PG, VW, LS]
  k_fill
  intros
  rename_i hret
  refine wpAny_call ?_
  k_dflt cell_enter
  refine gen_toks (Nat.succ_pos _) ?_
  intro k0 hk0
  k_steps
  all_goals cb_end hret
theorem c109 (l : List Nat) (t : Tok) : Claim 109 [.str (S l) t] (l.length ≤ 300000) (fun t => .str (S (l.flatMap (tab tab4))) t) := by
  rw [show S l = S (l.flatMap (tab [])) by rw [flat_nil]]
  dsimp only [Claim, CbClaim, CbLists, CbRet, PG, VW, LS]
  k_fill
  intros
  rename_i hret
  refine wpAny_call ?_
  k_dflt cell_enter
  refine gen_toks (Nat.succ_pos _) ?_
  intro k0 hk0
  k_steps
  all_goals cb_end hret
end Mine
end

-- C123
section
open PySem PySem.W PyProof.Rows
set_option Elab.async false
set_option maxRecDepth 100000
set_option maxHeartbeats 8000000
namespace Mine
def pieceT : List (List Nat) := [[46], [13], [10], [13, 10], [13, 46], [10, 46], [38], [60], [62], [34], [9], []]
def pieceL (d : Int) : List Nat := if d.fmod 13 = 12 then [((d.fdiv 117).fmod 256).toNat] else pieceT.getD (d.fmod 13).toNat []
theorem pieceT_eq (i : Nat) : [Str.ofString ".", Str.ofString "\r", Str.ofString "\n", Str.ofString "\r\n", Str.ofString "\r.", Str.ofString "\n.", Str.ofString "&", Str.ofString "<", Str.ofString ">", Str.ofString "\"", Str.ofString "\t", Str.ofString ""].getD i Str.empty = S (pieceT.getD i []) := by
  rw [show [Str.ofString ".", Str.ofString "\r", Str.ofString "\n", Str.ofString "\r\n", Str.ofString "\r.", Str.ofString "\n.", Str.ofString "&", Str.ofString "<", Str.ofString ">", Str.ofString "\"", Str.ofString "\t", Str.ofString ""] = pieceT.map S by decide +kernel]
  rw [List.getD_eq_getElem?_getD, List.getD_eq_getElem?_getD, List.getElem?_map]
  cases pieceT[i]? <;> rfl
theorem c123 (d : Int) (t : Tok) : Claim 123 [.int d t] (0 ≤ d ∧ d < 2 ^ 40) (fun t => .str (S (pieceL d)) t) := by
  dsimp only [Claim, CbClaim, CbLists, CbRet, PG, VW, LS]
  k_fill
  intros
  rename_i hpre _ _ hret
  obtain ⟨hp1, hp2⟩ := hpre
  refine wpAny_call ?_
  k_dflt cell_enter
  k_steps
  · refine cb_retS hret ?_ (by k_asm) (by k_asm)
    rw [pieceL, if_pos (by assumption)]
  · refine cb_retS hret ?_ (by k_asm) (by refine' cb_drop ?cbN ?cbS; (case cbN => assumption); (case cbS => kcj_all))
    rw [pieceL, if_neg (by assumption), pieceT_eq]
theorem pieceL_ok (d : Int) : (pieceL d).length ≤ 2 ∧ ∀ c ∈ pieceL d, c < 256 := by
  unfold pieceL
  split
  · refine ⟨by simp, fun c hc => ?_⟩
    rw [List.mem_singleton.mp hc]
    have h1 := Int.fmod_nonneg_of_pos (d.fdiv 117) (b := 256) (by decide)
    have h2 := Int.fmod_lt_of_pos (d.fdiv 117) (b := 256) (by decide)
    omega
  · rw [List.getD_eq_getElem?_getD]
    cases h : pieceT[(d.fmod 13).toNat]? with
    | none => simp
    | some l =>
      have hm : l ∈ pieceT := List.mem_of_getElem? h
      have key : ∀ l ∈ pieceT, l.length ≤ 2 ∧ ∀ c ∈ l, c < 256 := by decide +kernel
      exact key l hm
end Mine
end

-- CallU
section
open PySem PySem.W PyProof.Rows
set_option Elab.async false
set_option maxRecDepth 100000
set_option maxHeartbeats 8000000
namespace Mine
local macro_rules | `(tactic| walk_at "none such") => `(tactic| fail "none such")
theorem use_claim {f : Addr} {vs : List Value} {pre : Prop} {R : Tok → Value} (C : Claim f vs pre R) {w : World} {s₀ : Shared} {mg mb : Str → Option Value} {news : List (Addr × Obj)}
    {dp un : Nat} {gd : Option (List Code)} {cn : Str} {cs : Scope} {a : Addr} {ccd : Value} {cl : List (Str × Addr)} {outer : List Env} {A₀ : Around} {base h₀ : Heap} {L : Addr} {m : Str → Option Value} {s : Shared} {Q E : Value → Shared → Prop}
    (B : Below A₀ base outer h₀) (F : Fr h₀ L s.heap m) (X : (hd.heap_39 w.params).In h₀) (N : News h₀ L s.heap news) (T : Top hd.view_39 (looseW hd.view_39 [Str.ofString "_twin_re_1", Str.ofString "_twin_re_2", Str.ofString "_twin_re_3"]) (ExcName.means s₀.heap) mg mb h₀) (hk : cs.kind = .function)
    (hp : pre) (hd : dp + 1 < recursionLimit) (hu : un + 8 < cLine) (hret : ∀ (t : Tok) (h' : Heap) (tk' : Nat), Fr h₀ L h' m → News h₀ L h' news → Q (R t) { s with heap := h', toks := tk' }) :
    wpAny (model Challenge.rw_pe0100_01.row.prog w) (ktrTop dp un gd cn cs L a ccd cl outer) (call (.ref f) vs) Q E s :=
  C w s₀ mg mb news dp un gd cn cs a ccd cl outer A₀ base h₀ L m s Q E B F X N T hk hp hd hu hret

/-- what holds where a def that calls others is called: r frames are left -/
abbrev ClaimR (r : Nat) (f : Addr) (vs : List Value) (pre : Prop) (R : Tok → Value) : Prop :=
  ∀ (w : World) (s₀ : Shared) (mg mb : Str → Option Value) (news : List (Addr × Obj)) (dp un : Nat) (gd : Option (List Code)) (cn : Str) (cs : Scope) (a : Addr) (ccd : Value) (cl : List (Str × Addr)) (outer : List Env) (A₀ : Around) (base h₀ : Heap) (L : Addr) (m : Str → Option Value) (s : Shared) (Q E : Value → Shared → Prop),
    Below A₀ base outer h₀ → Fr h₀ L s.heap m → (hd.heap_39 w.params).In h₀ → News h₀ L s.heap news → Top hd.view_39 (looseW hd.view_39 [Str.ofString "_twin_re_1", Str.ofString "_twin_re_2", Str.ofString "_twin_re_3"]) (ExcName.means s₀.heap) mg mb h₀ → cs.kind = .function →
    pre → dp + r < recursionLimit → un + 8 * r < cLine → (∀ (t : Tok) (h' : Heap) (tk' : Nat), Fr h₀ L h' m → News h₀ L h' news → Q (R t) { s with heap := h', toks := tk' }) →
      wpAny (model Challenge.rw_pe0100_01.row.prog w) (ktrTop dp un gd cn cs L a ccd cl outer) (call (.ref f) vs) Q E s
theorem use_claimR {r : Nat} {f : Addr} {vs : List Value} {pre : Prop} {R : Tok → Value} (C : ClaimR r f vs pre R) {w : World} {s₀ : Shared} {mg mb : Str → Option Value} {news : List (Addr × Obj)}
    {dp un : Nat} {gd : Option (List Code)} {cn : Str} {cs : Scope} {a : Addr} {ccd : Value} {cl : List (Str × Addr)} {outer : List Env} {A₀ : Around} {base h₀ : Heap} {L : Addr} {m : Str → Option Value} {s : Shared} {Q E : Value → Shared → Prop}
    (B : Below A₀ base outer h₀) (F : Fr h₀ L s.heap m) (X : (hd.heap_39 w.params).In h₀) (N : News h₀ L s.heap news) (T : Top hd.view_39 (looseW hd.view_39 [Str.ofString "_twin_re_1", Str.ofString "_twin_re_2", Str.ofString "_twin_re_3"]) (ExcName.means s₀.heap) mg mb h₀) (hk : cs.kind = .function)
    (hp : pre) (hd : dp + r < recursionLimit) (hu : un + 8 * r < cLine) (hret : ∀ (t : Tok) (h' : Heap) (tk' : Nat), Fr h₀ L h' m → News h₀ L h' news → Q (R t) { s with heap := h', toks := tk' }) :
    wpAny (model Challenge.rw_pe0100_01.row.prog w) (ktrTop dp un gd cn cs L a ccd cl outer) (call (.ref f) vs) Q E s :=
  C w s₀ mg mb news dp un gd cn cs a ccd cl outer A₀ base h₀ L m s Q E B F X N T hk hp hd hu hret
end Mine
end

-- Comp1
section
open PySem PySem.W PyProof.Rows PySem.Calls
set_option Elab.async false
set_option maxRecDepth 100000
set_option maxHeartbeats 4000000
namespace Mine
local macro_rules | `(tactic| walk_at "none such") => `(tactic| fail "none such")

/-- item by item -/
inductive Each {α : Type} (g : α → Value → Prop) : List α → List Value → Prop
  | nil : Each g [] []
  | cons {a : α} {y : Value} {l : List α} {ys : List Value} : g a y → Each g l ys → Each g (a :: l) (y :: ys)
theorem Each.snoc {α : Type} {g : α → Value → Prop} {l : List α} {ys : List Value} {a : α} {y : Value} (h : Each g l ys) (hy : g a y) : Each g (l ++ [a]) (ys ++ [y]) := by
  induction h with
  | nil => exact .cons hy .nil
  | cons h1 _ ih => exact .cons h1 ih

section
variable {prog : Program} {w : World} {A : Around} {E : Value → Shared → Prop} {s : Shared} {h₀ : Heap} {L : Addr} {m : Str → Option Value} {env : Env} {news : List (Addr × Obj)}

/-- the turns of a comprehension whose element leaves the heap alone -/
theorem rest_of {α : Type} {elt : Expr} {x : Str} {scope : Scope} {cl : List (Str × Addr)} {S : List (Addr × Obj) → Prop} {P : Nat → Value → Prop} {Fin : List Value → List (Addr × Obj) → Prop} {l : List α} (val : α → Value → Prop) (g : α → Value → Prop)
    (hP : ∀ i v, i < l.length → P i v → ∃ a, l[i]? = some a ∧ val a v) (hS : S news)
    (turn : ∀ a v I oI C oC D m₂ ys h tk (E' : Value → Shared → Prop), a ∈ l → val a v → LCg.NsObj oC m₂ → m₂ x = some v → Fr h₀ L h m → News h₀ L h ((I, oI) :: (C, oC) :: (D, LCg.lst ys) :: news) →
      wpAny (model prog w) A (eval elt (compEnvC scope cl C env)) (fun y s₂ => g a y ∧ ∃ tk', s₂ = { s with heap := h, toks := tk' }) E' { s with heap := h, toks := tk })
    (fin : ∀ ys, Each g l ys → Fin ys news) : LCg.CompRest prog w A h₀ L m env elt x scope cl s S P Fin l.length 0 [] news := by
  have key : ∀ (j i : Nat) (ys : List Value), i + j = l.length → Each g (l.take i) ys → LCg.CompRest prog w A h₀ L m env elt x scope cl s S P Fin j i ys news := by
    intro j
    induction j with
    | zero =>
      intro i ys hi hy
      have e : i = l.length := by omega
      subst e
      rw [List.take_length] at hy
      exact LCg.CompRest.zero (fin ys hy)
    | succ j ih =>
      intro i ys hi hy
      refine LCg.CompRest.succ ?_
      intro v I oI C oC D m₂ h tk E' hv hC hx F N off ne
      obtain ⟨a, ha, hav⟩ := hP i v (by omega) hv
      refine wpAny_mono (turn a v I oI C oC D m₂ ys h tk E' (List.mem_of_getElem? ha) hav hC hx F N) (fun y s₂ hq => ?_) fun _ _ e => e
      obtain ⟨hg, tk', rfl⟩ := hq
      refine ⟨h, tk', news, rfl, F, N, off, hS, ?_⟩
      refine ih (i + 1) _ (by omega) ?_
      rw [List.take_add_one, ha]
      exact hy.snoc hg
  exact key l.length 0 [] (by omega) .nil

/-- a comprehension over what an iterator of one object gives -/
theorem comp_core {α : Type} {elt iter : Expr} {x : Str} {px : Pos} {scope : Scope} {cl : List (Str × Addr)} {pos : Pos} {Q : Value → Shared → Prop} {xv : Value} {l : List α} {n : Nat} {o : Obj} {P : Nat → Value → Prop} {St : Nat → Heap → Prop} (val : α → Value → Prop) (g : α → Value → Prop) (F : Fr h₀ L s.heap m) (N : News h₀ L s.heap news)
    (W : Walks prog w A s.heap.objs.size [s.heap.objs.size] [s.heap.objs.size] n P St) (hn : n = l.length) (hP : ∀ i v, i < l.length → P i v → ∃ a, l[i]? = some a ∧ val a v) (hIo : ∀ i h, St i h → ∃ o, h.get? s.heap.objs.size = some o) (hst : St 0 (s.heap.push o))
    (hit : ∀ Q', Q' (.ref s.heap.objs.size) { s with heap := s.heap.push o } → wpAny (model prog w) A (pyIter xv) Q' E s)
    (hclos : closureFor scope env = pure cl) (hcell : ∀ y ∈ scope.names, y.2 ≠ .cell) (hkind : scope.kind = .function)
    (hnames : ∀ y ∈ scope.names, y.2 = .local → scope.names.lookup y.1 = some .local) (hx : scope.names.lookup x = some .local) (hsz : n ≤ 2000000)
    (hiter : ∀ Q', Q' xv s → wpAny (model prog w) A (eval iter env) Q' E s)
    (turn : ∀ a v I oI C oC D m₂ ys (s₂ : Shared) h tk (E' : Value → Shared → Prop), a ∈ l → val a v → LCg.NsObj oC m₂ → m₂ x = some v → Fr h₀ L h m → News h₀ L h ((I, oI) :: (C, oC) :: (D, LCg.lst ys) :: news) →
      wpAny (model prog w) A (eval elt (compEnvC scope cl C env)) (fun y s' => g a y ∧ ∃ tk', s' = { s₂ with heap := h, toks := tk' }) E' { s₂ with heap := h, toks := tk })
    (fin : ∀ D ys h tk, Each g l ys → Fr h₀ L h m → News h₀ L h ((D, LCg.lst ys) :: news) → LCg.Off1 D news → Q (.ref D) { s with heap := h, toks := tk })
    (hs : ∀ x, foldedSetIterable iter env x = pure x := by intro _; rfl) :
    wpAny (model prog w) A (eval (.ListComp elt [⟨.Name x px, iter, [], 0⟩] scope pos) env) Q E s := by
  subst hn
  rw [eval_ListComp]
  refine wpAny_comprehension_free (use := none) rfl hs hclos hkind hnames (hiter _ ?_)
  refine hit _ ?_
  have up : ∀ b o', s.heap.get? b = some o' → (s.heap.push o).get? b = some o' := fun b o' e => Heap.get?_push_of_some _ e
  refine LCg.block_U (Fin := fun ys nw => LCg.FinE h₀ L m { s with heap := s.heap.push o } Q ys nw) (S := fun _ => True) W (by rw [sizeLine_eq]; omega) hIo (fun i h h' o' nw st e e' _ _ _ => W.frame i h h' st fun b hb o'' q => by
      rw [List.mem_singleton.mp hb] at q ⊢
      rw [e] at q; cases q; exact e') hcell hkind hx hst (fun b hb => ?_)
      (F.keeps up) (N.grown up) (Nat.ne_of_lt F.ns.lt) (next_is_new F) (fun p hp => Nat.ne_of_lt (Heap.lt_size (N p hp).1)) trivial ?_ ?_
  · rw [List.mem_singleton.mp hb]
    show s.heap.objs.size < (s.heap.push _).objs.size
    rw [Heap.size_push]; exact Nat.lt_succ_self _
  · refine rest_of val g hP trivial (fun a v I oI C oC D m₂ ys h tk E' ha hv hC hx' F' N' => turn a v I oI C oC D m₂ ys _ h tk E' ha hv hC hx' F' N') fun ys hys D h tk F' N' o1 => ?_
    exact fin D ys h tk hys F' N' o1
  · intro D C h tk m' ys news' F' N' o1 hn hC₀ hD₀ hCL hDL hCD offC fin'
    refine ⟨m', hn, fun h'' hs'' => fin' D h'' tk (F'.change hs'' hCL hC₀) (fun p hp => ?_) o1⟩
    refine ⟨hs''.extBut _ _ ?_ (N' p hp).1, (N' p hp).2⟩
    rcases List.mem_cons.mp hp with rfl | hp
    · exact Ne.symm hCD
    · exact offC p hp

theorem comp_str {elt iter : Expr} {x : Str} {px : Pos} {scope : Scope} {cl : List (Str × Addr)} {pos : Pos} {Q : Value → Shared → Prop} {l : List Nat} {t : Tok} (g : Nat → Value → Prop) (F : Fr h₀ L s.heap m) (N : News h₀ L s.heap news) (hh : A.handled = none)
    (hclos : closureFor scope env = pure cl) (hcell : ∀ y ∈ scope.names, y.2 ≠ .cell) (hkind : scope.kind = .function)
    (hnames : ∀ y ∈ scope.names, y.2 = .local → scope.names.lookup y.1 = some .local) (hx : scope.names.lookup x = some .local) (hsz : l.length ≤ 2000000)
    (hiter : ∀ Q', Q' (.str ⟨l.toArray⟩ t) s → wpAny (model prog w) A (eval iter env) Q' E s)
    (turn : ∀ a v I oI C oC D m₂ ys (s₂ : Shared) h tk (E' : Value → Shared → Prop), a ∈ l → (∃ u, v = .str ⟨#[a]⟩ u) → LCg.NsObj oC m₂ → m₂ x = some v → Fr h₀ L h m → News h₀ L h ((I, oI) :: (C, oC) :: (D, LCg.lst ys) :: news) →
      wpAny (model prog w) A (eval elt (compEnvC scope cl C env)) (fun y s' => g a y ∧ ∃ tk', s' = { s₂ with heap := h, toks := tk' }) E' { s₂ with heap := h, toks := tk })
    (fin : ∀ D ys h tk, Each g l ys → Fr h₀ L h m → News h₀ L h ((D, LCg.lst ys) :: news) → LCg.Off1 D news → Q (.ref D) { s with heap := h, toks := tk })
    (hs : ∀ x, foldedSetIterable iter env x = pure x := by intro _; rfl) :
    wpAny (model prog w) A (eval (.ListComp elt [⟨.Name x px, iter, [], 0⟩] scope pos) env) Q E s := by
  have hn : (⟨l.toArray⟩ : Str).cps.size = l.length := by simp
  have hP : ∀ i v, i < l.length → SignAt ⟨l.toArray⟩ i v → ∃ a, l[i]? = some a ∧ ∃ u, v = Value.str ⟨#[a]⟩ u := fun i v hi hv => by
    obtain ⟨c, u, hc, rfl⟩ := hv
    exact ⟨c, by simpa using hc, u, rfl⟩
  have hz : (⟨l.toArray⟩ : Str).cps.size ≤ 2000000 := by rw [hn]; exact hsz
  cases ha : (⟨l.toArray⟩ : Str).cps.all (· < 128)
  · exact comp_core (o := { cls := .type "str_iterator", data := .fields #[.str ⟨l.toArray⟩ t, .int 0 0] }) (fun a v => ∃ u, v = .str ⟨#[a]⟩ u) g F N (Walks.strWide hh _ ⟨l.toArray⟩ t) hn hP (fun i h st => ⟨_, st.choose_spec.1⟩) ⟨_, Heap.get?_push_size _ rfl, rfl, rfl⟩ (fun Q' q => wpAny_pyIter_wide ha q) hclos hcell hkind hnames hx hz hiter turn fin hs
  · exact comp_core (o := { cls := .type "str_ascii_iterator", data := .fields #[.str ⟨l.toArray⟩ t, .int 0 0] }) (fun a v => ∃ u, v = .str ⟨#[a]⟩ u) g F N (Walks.strAscii hh _ ⟨l.toArray⟩ t) hn hP (fun i h st => ⟨_, st.choose_spec.1⟩) ⟨_, Heap.get?_push_size _ rfl, rfl, rfl⟩ (fun Q' q => wpAny_pyIter_ascii ha q) hclos hcell hkind hnames hx hz hiter turn fin hs

theorem comp_bytes {elt iter : Expr} {x : Str} {px : Pos} {scope : Scope} {cl : List (Str × Addr)} {pos : Pos} {Q : Value → Shared → Prop} {l : List Nat} {t : Tok} (g : Nat → Value → Prop) (hl : ∀ c ∈ l, c < 256) (F : Fr h₀ L s.heap m) (N : News h₀ L s.heap news) (hh : A.handled = none)
    (hclos : closureFor scope env = pure cl) (hcell : ∀ y ∈ scope.names, y.2 ≠ .cell) (hkind : scope.kind = .function)
    (hnames : ∀ y ∈ scope.names, y.2 = .local → scope.names.lookup y.1 = some .local) (hx : scope.names.lookup x = some .local) (hsz : l.length ≤ 2000000)
    (hiter : ∀ Q', Q' (.bytes (l.toArray.map (·.toUInt8)) t) s → wpAny (model prog w) A (eval iter env) Q' E s)
    (turn : ∀ a v I oI C oC D m₂ ys (s₂ : Shared) h tk (E' : Value → Shared → Prop), a ∈ l → (∃ u, v = .int (a : Int) u) → LCg.NsObj oC m₂ → m₂ x = some v → Fr h₀ L h m → News h₀ L h ((I, oI) :: (C, oC) :: (D, LCg.lst ys) :: news) →
      wpAny (model prog w) A (eval elt (compEnvC scope cl C env)) (fun y s' => g a y ∧ ∃ tk', s' = { s₂ with heap := h, toks := tk' }) E' { s₂ with heap := h, toks := tk })
    (fin : ∀ D ys h tk, Each g l ys → Fr h₀ L h m → News h₀ L h ((D, LCg.lst ys) :: news) → LCg.Off1 D news → Q (.ref D) { s with heap := h, toks := tk })
    (hs : ∀ x, foldedSetIterable iter env x = pure x := by intro _; rfl) :
    wpAny (model prog w) A (eval (.ListComp elt [⟨.Name x px, iter, [], 0⟩] scope pos) env) Q E s := by
  have hn : (l.toArray.map (·.toUInt8)).size = l.length := by simp
  have hz : (l.toArray.map (·.toUInt8)).size ≤ 2000000 := by rw [hn]; exact hsz
  refine comp_core (o := { cls := .type "bytes_iterator", data := .fields #[.bytes (l.toArray.map (·.toUInt8)) t, .int 0 0] }) (fun (a : Nat) v => ∃ u, v = .int (a : Int) u) g F N (KBw.walks hh _ (l.toArray.map (·.toUInt8)) t) hn (fun i v hi hv => ?_) (fun i h st => ⟨_, st.choose_spec.1⟩) ⟨_, Heap.get?_push_size _ rfl, rfl, rfl⟩ (fun Q' q => KBw.pyIter_bytes q) hclos hcell hkind hnames hx hz hiter turn fin hs
  obtain ⟨c, u, hc, rfl⟩ := hv
  rw [Array.getElem?_map, List.getElem?_toArray, List.getElem?_eq_getElem hi] at hc
  have hc' := Option.some.inj hc
  refine ⟨l[i], List.getElem?_eq_getElem hi, u, ?_⟩
  have := hl l[i] (List.getElem_mem hi)
  rw [← hc']
  congr 1
  simp
  omega
end
theorem comp_ord {prog : Program} {w : World} {A : Around} {E : Value → Shared → Prop} {s : Shared} {h₀ : Heap} {L : Addr} {m : Str → Option Value} {env : Env} {news : List (Addr × Obj)} {elt iter : Expr} {x : Str} {px : Pos} {scope : Scope} {cl : List (Str × Addr)} {pos : Pos} {Q : Value → Shared → Prop} {l : List Nat} {t : Tok} (F : Fr h₀ L s.heap m) (N : News h₀ L s.heap news) (hh : A.handled = none)
    (hclos : closureFor scope env = pure cl) (hcell : ∀ y ∈ scope.names, y.2 ≠ .cell) (hkind : scope.kind = .function)
    (hnames : ∀ y ∈ scope.names, y.2 = .local → scope.names.lookup y.1 = some .local) (hx : scope.names.lookup x = some .local) (hsz : l.length ≤ 150000)
    (hiter : ∀ Q', Q' (.str ⟨l.toArray⟩ t) s → wpAny (model prog w) A (eval iter env) Q' E s)
    (turn : ∀ (a : Nat) u I oI C oC D m₂ ys (s₂ : Shared) h tk (E' : Value → Shared → Prop), LCg.NsObj oC m₂ → m₂ x = some (.str ⟨#[a]⟩ u) → Fr h₀ L h m → News h₀ L h ((I, oI) :: (C, oC) :: (D, LCg.lst ys) :: news) →
      wpAny (model prog w) A (eval elt (compEnvC scope cl C env)) (fun y s' => (∃ t, y = .int (a : Int) t) ∧ ∃ tk', s' = { s₂ with heap := h, toks := tk' }) E' { s₂ with heap := h, toks := tk })
    (fin : ∀ D ys h tk, IntsAre ys (l.map fun (c : Nat) => (c : Int)) → Fr h₀ L h m → News h₀ L h ((D, LCg.lst ys) :: news) → LCg.Off1 D news → Q (.ref D) { s with heap := h, toks := tk })
    (hs : ∀ x, foldedSetIterable iter env x = pure x := by intro _; rfl) :
    wpAny (model prog w) A (eval (.ListComp elt [⟨.Name x px, iter, [], 0⟩] scope pos) env) Q E s := by
  refine comp_str (fun (c : Nat) y => ∃ t, y = .int (c : Int) t) F N hh hclos hcell hkind hnames hx (by omega) hiter (fun a v I oI C oC D m₂ ys s₂ h tk E' _ hv hC hx' F' N' => ?_) (fun D ys h tk hE F' N' o1 => fin D ys h tk ?_ F' N' o1) hs
  · obtain ⟨u, rfl⟩ := hv
    exact turn a u I oI C oC D m₂ ys s₂ h tk E' hC hx' F' N'
  · clear N' fin turn hiter hsz
    induction hE with
    | nil => exact .nil
    | cons h1 _ ih => obtain ⟨t, rfl⟩ := h1; exact .cons _ t ih
theorem comp_chr {prog : Program} {w : World} {A : Around} {E : Value → Shared → Prop} {s : Shared} {h₀ : Heap} {L : Addr} {m : Str → Option Value} {env : Env} {news : List (Addr × Obj)} {elt iter : Expr} {x : Str} {px : Pos} {scope : Scope} {cl : List (Str × Addr)} {pos : Pos} {Q : Value → Shared → Prop} {l : List Nat} {t : Tok} (F : Fr h₀ L s.heap m) (N : News h₀ L s.heap news) (hh : A.handled = none)
    (hclos : closureFor scope env = pure cl) (hcell : ∀ y ∈ scope.names, y.2 ≠ .cell) (hkind : scope.kind = .function)
    (hnames : ∀ y ∈ scope.names, y.2 = .local → scope.names.lookup y.1 = some .local) (hx : scope.names.lookup x = some .local) (hsz : l.length ≤ 300000) (hl : ∀ c ∈ l, c < 256)
    (hiter : ∀ Q', Q' (.bytes (l.toArray.map (·.toUInt8)) t) s → wpAny (model prog w) A (eval iter env) Q' E s)
    (turn : ∀ (a : Nat) u I oI C oC D m₂ ys (s₂ : Shared) h tk (E' : Value → Shared → Prop), a < 256 → LCg.NsObj oC m₂ → m₂ x = some (.int (a : Int) u) → Fr h₀ L h m → News h₀ L h ((I, oI) :: (C, oC) :: (D, LCg.lst ys) :: news) →
      wpAny (model prog w) A (eval elt (compEnvC scope cl C env)) (fun y s' => (∃ t, y = .str ⟨#[a]⟩ t) ∧ ∃ tk', s' = { s₂ with heap := h, toks := tk' }) E' { s₂ with heap := h, toks := tk })
    (fin : ∀ D ys h tk, StrsAre ys (l.map fun (c : Nat) => (⟨#[c]⟩ : Str)) → Fr h₀ L h m → News h₀ L h ((D, LCg.lst ys) :: news) → LCg.Off1 D news → Q (.ref D) { s with heap := h, toks := tk })
    (hs : ∀ x, foldedSetIterable iter env x = pure x := by intro _; rfl) :
    wpAny (model prog w) A (eval (.ListComp elt [⟨.Name x px, iter, [], 0⟩] scope pos) env) Q E s := by
  refine comp_bytes (fun (c : Nat) y => ∃ t, y = .str ⟨#[c]⟩ t) hl F N hh hclos hcell hkind hnames hx (by omega) hiter (fun a v I oI C oC D m₂ ys s₂ h tk E' ha hv hC hx' F' N' => ?_) (fun D ys h tk hE F' N' o1 => fin D ys h tk ?_ F' N' o1) hs
  · obtain ⟨u, rfl⟩ := hv
    exact turn a u I oI C oC D m₂ ys s₂ h tk E' (hl a ha) hC hx' F' N'
  · clear N' fin turn hiter hsz hl
    induction hE with
    | nil => exact .nil
    | cons h1 _ ih => obtain ⟨t, rfl⟩ := h1; exact .cons _ t ih
end Mine
end

-- C128
section
open PySem PySem.W PyProof.Rows
set_option Elab.async false
set_option maxRecDepth 100000
set_option maxHeartbeats 8000000
namespace Mine
local macro_rules | `(tactic| walk_at "call ref") => `(tactic| (k_here; k_dflt (refine' use_claim (c81 _ _) ?k1 ?k2 ?k3 ?k4 ?k5 ?kK ?kp ?kd ?ku ?_; (case k1 => k_asm); (case k2 => k_asm); (case k3 => k_asm); (case k4 => k_asm); (case k5 => k_asm); (case kK => first | exact rfl | assumption); (case kp => first | assumption | omega | (constructor <;> first | assumption | omega)); (case kd => ktr_room); (case ku => ktr_units); k_whole); intro t9 h9 tk9 F9 N9; (try dsimp only); (try k_fold)))
local macro_rules | `(tactic| walk_at "call ref") => `(tactic| (k_here; k_dflt (refine' use_claim (c88 _ _) ?k1 ?k2 ?k3 ?k4 ?k5 ?kK ?kp ?kd ?ku ?_; (case k1 => k_asm); (case k2 => k_asm); (case k3 => k_asm); (case k4 => k_asm); (case k5 => k_asm); (case kK => first | exact rfl | assumption); (case kp => first | assumption | omega | (constructor <;> first | assumption | omega)); (case kd => ktr_room); (case ku => ktr_units); k_whole); intro t9 h9 tk9 F9 N9; (try dsimp only); (try k_fold)))
local macro_rules | `(tactic| walk_at "call ref") => `(tactic| (k_here; k_dflt (refine' use_claim (c95 _ _) ?k1 ?k2 ?k3 ?k4 ?k5 ?kK ?kp ?kd ?ku ?_; (case k1 => k_asm); (case k2 => k_asm); (case k3 => k_asm); (case k4 => k_asm); (case k5 => k_asm); (case kK => first | exact rfl | assumption); (case kp => first | assumption | omega | (constructor <;> first | assumption | omega)); (case kd => ktr_room); (case ku => ktr_units); k_whole); intro t9 h9 tk9 F9 N9; (try dsimp only); (try k_fold)))
local macro_rules | `(tactic| walk_at "call ref") => `(tactic| (k_here; k_dflt (refine' use_claim (c102 _ _) ?k1 ?k2 ?k3 ?k4 ?k5 ?kK ?kp ?kd ?ku ?_; (case k1 => k_asm); (case k2 => k_asm); (case k3 => k_asm); (case k4 => k_asm); (case k5 => k_asm); (case kK => first | exact rfl | assumption); (case kp => first | assumption | omega | (constructor <;> first | assumption | omega)); (case kd => ktr_room); (case ku => ktr_units); k_whole); intro t9 h9 tk9 F9 N9; (try dsimp only); (try k_fold)))
local macro_rules | `(tactic| walk_at "call ref") => `(tactic| (k_here; k_dflt (refine' use_claim (c109 _ _) ?k1 ?k2 ?k3 ?k4 ?k5 ?kK ?kp ?kd ?ku ?_; (case k1 => k_asm); (case k2 => k_asm); (case k3 => k_asm); (case k4 => k_asm); (case k5 => k_asm); (case kK => first | exact rfl | assumption); (case kp => first | assumption | omega | (constructor <;> first | assumption | omega)); (case kd => ktr_room); (case ku => ktr_units); k_whole); intro t9 h9 tk9 F9 N9; (try dsimp only); (try k_fold)))
local macro_rules | `(tactic| walk_at "call ref") => `(tactic| (k_here; k_dflt (refine' use_claim (c53 _ _) ?k1 ?k2 ?k3 ?k4 ?k5 ?kK ?kp ?kd ?ku ?_; (case k1 => k_asm); (case k2 => k_asm); (case k3 => k_asm); (case k4 => k_asm); (case k5 => k_asm); (case kK => first | exact rfl | assumption); (case kp => first | assumption | omega | (constructor <;> first | assumption | omega)); (case kd => ktr_room); (case ku => ktr_units); k_whole); intro t9 h9 tk9 F9 N9; (try dsimp only); (try k_fold)))
local macro_rules | `(tactic| walk_at "call ref") => `(tactic| (k_here; k_dflt (refine' use_claim (c67 _ _) ?k1 ?k2 ?k3 ?k4 ?k5 ?kK ?kp ?kd ?ku ?_; (case k1 => k_asm); (case k2 => k_asm); (case k3 => k_asm); (case k4 => k_asm); (case k5 => k_asm); (case kK => first | exact rfl | assumption); (case kp => first | assumption | omega | (constructor <;> first | assumption | omega)); (case kd => ktr_room); (case ku => ktr_units); k_whole); intro t9 h9 tk9 F9 N9; (try dsimp only); (try k_fold)))
local macro_rules | `(tactic| walk_at "call ref") => `(tactic| (k_here; k_dflt (refine' use_claim (c60 _ _) ?k1 ?k2 ?k3 ?k4 ?k5 ?kK ?kp ?kd ?ku ?_; (case k1 => k_asm); (case k2 => k_asm); (case k3 => k_asm); (case k4 => k_asm); (case k5 => k_asm); (case kK => first | exact rfl | assumption); (case kp => first | assumption | omega | (constructor <;> first | assumption | omega)); (case kd => ktr_room); (case ku => ktr_units); k_whole); intro t9 h9 tk9 F9 N9; (try dsimp only); (try k_fold)))
section
variable {prog : Program} {w : World} {A : Around} {E : Value → Shared → Prop} {s : Shared} {L D : Addr} {h₀ : Heap} {m : Str → Option Value} {news : List (Addr × Obj)}
theorem bytes_of {l : List Nat} {ys : List Value} {Q : Value → Shared → Prop} (F : Fr h₀ L s.heap m) (N : News h₀ L s.heap ((D, LCg.lst ys) :: news)) (hi : IntsAre ys (l.map fun (c : Nat) => (c : Int))) (hl : l.length ≤ 150000) (hc : ∀ c ∈ l, c < 256) (hh : A.handled = none)
    (h : ∀ h' t k, Fr h₀ L h' m → News h₀ L h' ((D, LCg.lst ys) :: news) → Q (R.mkB l t) { s with heap := h', toks := k }) : wpAny (model prog w) A (call (.type "bytes") [.ref D]) Q E s := by
  refine call_bytes_ints (ns := l.map fun (c : Nat) => (c : Int)) (vs := ys) ⟨_, (N _ (List.mem_cons_self ..)).1, rfl, _, rfl⟩ hi (fun n hn => ?_) ?_ hh fun h' t k hk => ?_
  · obtain ⟨c, hc', rfl⟩ := List.mem_map.mp hn
    have := hc c hc'
    omega
  · rw [hi.length, List.length_map, sizeLine_eq]; omega
  · have e : byteArr (l.map fun (c : Nat) => (c : Int)) = l.toArray.map (·.toUInt8) := by
      unfold byteArr
      rw [List.map_map, List.map_toArray]
      rfl
    rw [e]
    exact h h' t k (F.keeps hk) (N.grown hk)
theorem join_of {l : List Nat} {ys : List Value} {t : Tok} {Q : Value → Shared → Prop} (N : News h₀ L s.heap ((D, LCg.lst ys) :: news)) (hi : StrsAre ys (l.map fun (c : Nat) => (⟨#[c]⟩ : Str))) (hl : l.length ≤ 300000)
    (h : ∀ t k, Q (.str (S l) t) { s with toks := k }) : wpAny (model prog w) A (call (.builtin "str.join") [.str (Str.ofString "") t, .ref D]) Q E s := by
  rw [show Str.ofString "" = (⟨([] : List Nat).toArray⟩ : Str) by decide +kernel]
  have e : (l.map fun (c : Nat) => (⟨#[c]⟩ : Str)) = (l.map fun c => [c]).map fun p => (⟨p.toArray⟩ : Str) := by rw [List.map_map]; rfl
  refine join_list (ys := l.map fun (c : Nat) => (⟨#[c]⟩ : Str)) (items := ys.toArray) ⟨_, (N _ (List.mem_cons_self ..)).1, rfl, _, rfl⟩ (by simpa using hi) ?_ fun t' k => ?_
  · have e1 : ((l.map fun (c : Nat) => (⟨#[c]⟩ : Str)).map (·.length)).sum = l.length := by
      clear hi hl e h
      induction l with
      | nil => rfl
      | cons c r ih => simp only [List.map_cons, List.sum_cons, ih, List.length_cons]; simp [Str.length]; omega
    rw [e1]
    simp [Str.length]
    omega
  · rw [e, R.join_flat]
    have e2 : (l.map fun c => [c]).flatten = l := by
      clear hi hl e h
      induction l with
      | nil => rfl
      | cons c r ih => rw [List.map_cons, List.flatten_cons, ih]; rfl
    rw [e2]
    exact h t' k
end
local macro_rules | `(tactic| walk_at "call type:bytes") => `(tactic| (k_here; (with_reducible show wpAny _ _ (call (Value.type "bytes") [Value.ref _]) _ _ _); k_dflt (refine' bytes_of ?k1 ?k2 ?k3 ?k4 ?k5 ?k6 ?_; (case k1 => k_asm); (case k2 => k_asm); (case k3 => assumption); (case k4 => assumption); (case k5 => assumption); (case k6 => rfl); k_whole); intro h' t' k' F' N'; (try dsimp only)))
local macro_rules | `(tactic| walk_at "call builtin:str.join") => `(tactic| (k_here; k_dflt (refine' join_of ?k2 ?k3 ?k4 ?_; (case k2 => k_asm); (case k3 => assumption); (case k4 => assumption); k_whole); intro t' k'; (try dsimp only)))
local macro_rules | `(tactic| walk_at "eval ListComp") => `(tactic| (k_here; (with_reducible show wpAny _ _ (eval (Expr.ListComp (Expr.Call (Expr.Name (PySem.Str.ofString "ord") _) _ _ _) _ _ _) _) _ _ _); k_dflt (refine' comp_ord ?k1 ?k2 ?k3 ?k4 ?k5 ?k6 ?k7 ?k8 ?k9 ?k10 ?k11 ?_; (case k1 => k_asm); (case k2 => k_asm); (case k3 => rfl); (case k4 => with_unfolding_all rfl); (case k5 => decide); (case k6 => rfl); (case k7 => decide); (case k8 => rfl); (case k9 => assumption); (case k10 => intro Q' q'; refine ld (by k_asm) rfl ?_; exact q'); (case k11 => intro a' u' I' oI' C' oC' D' m' ys' s2' h' tk' E' hC' hx' F' N'; (k_steps)); k_whole); intro D' ys' h' tk' hI' F' N' o1'; (try dsimp only)))
local macro_rules | `(tactic| walk_at "eval ListComp") => `(tactic| (k_here; (with_reducible show wpAny _ _ (eval (Expr.ListComp (Expr.Call (Expr.Name (PySem.Str.ofString "chr") _) _ _ _) _ _ _) _) _ _ _); k_dflt (refine' comp_chr ?k1 ?k2 ?k3 ?k4 ?k5 ?k6 ?k7 ?k8 ?k9 ?kl ?k10 ?k11 ?_; (case k1 => k_asm); (case k2 => k_asm); (case k3 => rfl); (case k4 => with_unfolding_all rfl); (case k5 => decide); (case k6 => rfl); (case k7 => decide); (case k8 => rfl); (case k9 => assumption); (case kl => assumption); (case k10 => intro Q' q'; refine ld (by k_asm) rfl ?_; exact q'); (case k11 => intro a' u' I' oI' C' oC' D' m' ys' s2' h' tk' E' ha' hC' hx' F' N'; (k_steps)); k_whole); intro D' ys' h' tk' hI' F' N' o1'; (try dsimp only)))
theorem dots_mem46 : ∀ (b : Bool) (l : List Nat), ∀ c ∈ R.dots b l, c ∈ l
  | _, [] => fun c h => by simp [R.dots] at h
  | b, d :: r => fun c h => by
    rw [R.dots] at h
    split at h
    · rename_i hd
      rcases List.mem_cons.mp h with e | h
      · exact e ▸ hd.2 ▸ List.mem_cons_self ..
      · rcases List.mem_cons.mp h with e | h
        · exact e ▸ hd.2 ▸ List.mem_cons_self ..
        · exact List.mem_cons_of_mem _ (dots_mem46 _ r c h)
    · rcases List.mem_cons.mp h with e | h
      · exact e ▸ List.mem_cons_self ..
      · exact List.mem_cons_of_mem _ (dots_mem46 _ r c h)
def doneF (d : Int) (l : List Nat) : List Nat :=
  if d = 0 then l.flatMap (tab tab0) else if d = 1 then l.flatMap (tab tab1) else if d = 2 then l.flatMap (tab tab2) else if d = 3 then l.flatMap (tab tab3) else if d = 4 then l.flatMap (tab tab4)
  else if d = 5 then R.dots true (R.fixE l) else if d = 6 then R.fixE l else if d = 7 then R.dots true l else l
theorem c128 (l : List Nat) (d : Int) (t u : Tok) : ClaimR 3 128 [.str (S l) t, .int d u] (0 ≤ d ∧ d ≤ 8 ∧ l.length ≤ 150000 ∧ (R.fixE l).length ≤ 300000 ∧ ∀ c ∈ l, c < 256) (fun t => .str (S (doneF d l)) t) := by
  dsimp only [ClaimR]
  k_fill
  intros
  rename_i hpre _ _ hret
  obtain ⟨hp1, hp2, hp3, hp4, hp5⟩ := hpre
  have hp3' : l.length ≤ 300000 := by omega
  have hp3'' : l.length ≤ 1000000 := by omega
  have hp4' : (R.fixE l).length ≤ 1000000 := by omega
  have hp6 : (R.dots true l).length ≤ 300000 := by have := dots_len true l; omega
  have hp7 : ∀ c ∈ R.dots true l, c < 256 := fun c hc => hp5 c (dots_mem46 true l c hc)
  have hp8 : l.length ≤ 1000000 ∧ ∀ c ∈ l, c < 256 := ⟨by omega, hp5⟩
  refine wpAny_call ?_
  k_dflt cell_enter
  k_steps
  all_goals (refine cb_retS hret ?_ (by k_asm) (by first | k_asm | (refine' cb_drop ?cbN ?cbS; (case cbN => assumption); (case cbS => kcj_all))))
  all_goals (congr 1; unfold doneF; (repeat' split) <;> first | rfl | omega)
end Mine
end

-- C116
section
open PySem PySem.W PyProof.Rows PyProof.V PySem.Spec
set_option Elab.async false
set_option maxRecDepth 100000
set_option maxHeartbeats 8000000
namespace Mine

theorem gen_toks0 {α : Type} {M : Model} {A : Around} {t : Sem α} {Q : α → Shared → Prop} {E : Value → Shared → Prop} {h : Heap} {g : Array GenState} {d : Drawn} {n : Nat} {os : OsState}
    (hh : ∀ k, wpAny M A t Q E ⟨h, g, d, k, os⟩) : wpAny M A t Q E ⟨h, g, d, n, os⟩ := hh n

def nt0 : Tab := [(38, [97, 109, 112, 59]), (60, [108, 116, 59]), (62, [103, 116, 59])]
def nt1 : Tab := nt0 ++ [(34, [113, 117, 111, 116, 59]), (13, [35, 49, 51, 59]), (10, [35, 49, 48, 59]), (9, [35, 48, 57, 59])]
def nt2 : Tab := [(38, [97, 109, 112, 59]), (62, [103, 116, 59]), (34, [113, 117, 111, 116, 59])]
def nt3 : Tab := nt0 ++ [(13, [35, 120, 68, 59])]
def nt4 : Tab := [(38, [97, 109, 112, 59]), (60, [108, 116, 59]), (34, [113, 117, 111, 116, 59]), (9, [35, 120, 57, 59]), (10, [35, 120, 65, 59]), (13, [35, 120, 68, 59])]

/-- a dict of names: a sign's text to a text -/
def NameObj (prog : Program) (w : World) (T : Tab) (d : Addr) (o : Obj) : Prop := (d == sysModules) = false ∧ ∃ kvs, o.IsDictOf (PySem.strKind prog w) kvs ∧ FlatPairs PyData.str kvs (T.map fun p => (PyData.str (S [p.1]), PyData.str (S p.2)))

theorem nameObj_of {prog : Program} {w : World} {T : Tab} {d : Addr} {o : Obj} {kvs : List (Str × Value)} {D : List (PyData × PyData)} (lo : (d == sysModules) = false) (h : o.IsDictOf (PySem.strKind prog w) kvs) (hf : FlatPairs PyData.str kvs D)
    (e : D = T.map fun p => (PyData.str (S [p.1]), PyData.str (S p.2))) : NameObj prog w T d o := ⟨lo, kvs, h, e ▸ hf⟩

abbrev NamesRet (w : World) (h₀ : Heap) (L : Addr) (m : Str → Option Value) (news : List (Addr × Obj)) (s : Shared) (Q : Value → Shared → Prop) : Prop :=
  ∀ (Ln d0 d1 d2 d3 d4 : Addr) (o0 o1 o2 o3 o4 : Obj) (h' : Heap) (tk' : Nat), Fr h₀ L h' m →
    News h₀ L h' ((Ln, W.listOf #[.ref d0, .ref d1, .ref d2, .ref d3, .ref d4] 0) :: (d4, o4) :: (d3, o3) :: (d2, o2) :: (d1, o1) :: (d0, o0) :: news) →
    NameObj Challenge.rw_pe0100_01.row.prog w nt0 d0 o0 → NameObj Challenge.rw_pe0100_01.row.prog w nt1 d1 o1 → NameObj Challenge.rw_pe0100_01.row.prog w nt2 d2 o2 → NameObj Challenge.rw_pe0100_01.row.prog w nt3 d3 o3 → NameObj Challenge.rw_pe0100_01.row.prog w nt4 d4 o4 →
    Q (.ref Ln) { s with heap := h', toks := tk' }

local macro_rules | `(tactic| walk_at "eval Dict") => `(tactic| (k_here; k_dflt ((refine gen_toks0 ?_; intro tkd); (refine' kdn_str ?q ?F ?N ?b ?a ?l ?e ?n ?_; (case q => rfl); (case F => k_asm); (case N => first | k_asm | exact News.nil); (case b => exact Top.nolimit (by k_asm)); (case a => rfl); (case l => rfl); (case e => exact List.cons_ne_nil _ _); (case n => exact Nat.le_of_ble_eq_true rfl))); intro d' h' o' F' N' l1 lo' hd'; (try k_lt l1)))

theorem c116 : ∀ (w : World) (s₀ : Shared) (mg mb : Str → Option Value) (news : List (Addr × Obj)) (dp un : Nat) (gd : Option (List Code)) (cn : Str) (cs : Scope) (a : Addr) (ccd : Value) (cl : List (Str × Addr)) (outer : List Env) (A₀ : Around) (base h₀ : Heap) (L : Addr) (m : Str → Option Value) (s : Shared) (Q E : Value → Shared → Prop),
    Below A₀ base outer h₀ → Fr h₀ L s.heap m → (hd.heap_39 w.params).In h₀ → News h₀ L s.heap news → Top hd.view_39 (looseW hd.view_39 [Str.ofString "_twin_re_1", Str.ofString "_twin_re_2", Str.ofString "_twin_re_3"]) (ExcName.means s₀.heap) mg mb h₀ → cs.kind = .function →
    dp + 1 < recursionLimit → un + 8 < cLine → NamesRet w h₀ L m news s Q →
      wpAny (model Challenge.rw_pe0100_01.row.prog w) (ktrTop dp un gd cn cs L a ccd cl outer) (call (.ref 116) []) Q E s := by
  k_fill
  intros
  rename_i hret
  refine wpAny_call ?_
  k_dflt cell_enter
  k_steps
  refine' hret _ _ _ _ _ _ _ _ _ _ _ _ _ ?f ?n ?a0 ?a1 ?a2 ?a3 ?a4
  case f => k_asm
  case n => k_asm
  all_goals exact nameObj_of (by assumption) (by assumption) (by assumption) (by kernel_rfl)
end Mine
end

-- Loop1
section
open PySem PySem.W PyProof.Rows PySem.Calls
set_option Elab.async false
set_option maxRecDepth 100000
set_option maxHeartbeats 4000000
namespace Mine

/-- the end of a loop's turn: the frame, the ledger, what holds of both -/
def TurnEnd (h₀ : Heap) (L I : Addr) (oI : Obj) (Jn : (Str → Option Value) → List (Addr × Obj) → Prop) (s₁ : Shared) (f : Flow) (s₂ : Shared) : Prop :=
  f = .next ∧ ∃ h' tk m₂ news₂, s₂ = { s₁ with heap := h', toks := tk } ∧ Fr h₀ L h' m₂ ∧ News h₀ L h' (news₂ ++ [(I, oI)]) ∧ (∀ q ∈ news₂, q.1 ≠ I) ∧ Jn m₂ news₂

section
variable {prog : Program} {w : World} {A : Around} {E : Value → Shared → Prop} {s : Shared} {env : Env} {h₀ : Heap} {x : Str} {body : List Stmt} {Q : Flow → Shared → Prop}

theorem loop_one {o : Obj} {n : Nat} {P : Nat → Value → Prop} {St : Nat → Heap → Prop} {m₀ : Str → Option Value} {news : List (Addr × Obj)} (J : Nat → (Str → Option Value) → List (Addr × Obj) → Prop)
    (W : Walks prog w A s.heap.objs.size [s.heap.objs.size] [s.heap.objs.size] n P St) (hIo : ∀ i h, St i h → ∃ o, h.get? s.heap.objs.size = some o) (hst : St 0 (s.heap.push o)) (F : Fr h₀ env.locals s.heap m₀) (N : News h₀ env.locals s.heap news) (hj : J 0 m₀ news)
    (turn : ∀ i v m₁ news₁ h tk oI, i < n → P i v → J i m₁ news₁ → (∀ q ∈ news₁, q.1 ≠ s.heap.objs.size) → Fr h₀ env.locals h (fun y => if y = x then some v else m₁ y) → News h₀ env.locals h (news₁ ++ [(s.heap.objs.size, oI)]) →
      wpAny (model prog w) A (execs body env) (TurnEnd h₀ env.locals s.heap.objs.size oI (J (i + 1)) { s with heap := h, toks := tk }) E { s with heap := h, toks := tk })
    (done : ∀ m₁ nx h tk, J n m₁ nx → Fr h₀ env.locals h m₁ → News h₀ env.locals h nx → Q .next { s with heap := h, toks := tk }) :
    LoopAtV prog w A h₀ env x body Q E (.ref s.heap.objs.size) { s with heap := s.heap.push o } := by
  refine ⟨_, _, _, n, P, St, m₀, news, J, rfl, W, ?_, ?_, ?_, hst, F.push _, fun p hp => ⟨Heap.get?_push_of_some _ (N p hp).1, (N p hp).2⟩, hj, ?_, ?_⟩
  · intro hm
    exact absurd F.ns.lt ((List.mem_singleton.mp hm) ▸ Nat.lt_irrefl _)
  · intro b hb
    rw [List.mem_singleton.mp hb]
    exact next_is_new F
  · intro p hp hI
    exact absurd (Heap.lt_size (N p hp).1) ((List.mem_singleton.mp hI) ▸ Nat.lt_irrefl _)
  · rintro i v m₁ news₁ s₁ own ⟨hh', tk', rfl⟩ hin hP hJ hoff hown hget hall hst' F₁ N₁
    obtain ⟨oI, hoI⟩ := hIo _ _ hst'
    have hIn : (s.heap.objs.size, oI) ∈ own := hall _ (List.mem_singleton.mpr rfl) (next_is_new F) oI hoI
    have N₂ : News h₀ env.locals hh' (news₁ ++ [(s.heap.objs.size, oI)]) := fun p hp => by
      rcases List.mem_append.mp hp with hp | hp
      · exact N₁ p (List.mem_append_right _ hp)
      · rw [List.mem_singleton.mp hp]
        exact N₁ _ (List.mem_append_left _ hIn)
    refine wpAny_mono (turn i v m₁ news₁ hh' tk' oI hin hP hJ (fun q hq e => hoff q hq (List.mem_singleton.mpr e)) F₁ N₂) (fun f s₂ p => ?_) fun _ _ e => e
    obtain ⟨rfl, h', tk, m₂, news₂, e, F', N', hne, hJ'⟩ := p
    refine .next ⟨rfl, h', tk, m₂, news₂, e, F', fun p hp => ?_, fun q hq hm => hne q hq (List.mem_singleton.mp hm), hJ'⟩
    rcases List.mem_append.mp hp with hp | hp
    · have e1 : p.1 = s.heap.objs.size := List.mem_singleton.mp (hown p hp)
      have e2 := hget p hp
      rw [e1] at e2
      have e3 : p = (s.heap.objs.size, oI) := by
        have : p.2 = oI := by
          have e4 := e2.symm.trans hoI
          exact Option.some.inj e4
        rw [← e1, ← this]
      rw [e3]
      exact N' _ (List.mem_append_right _ (List.mem_singleton.mpr rfl))
    · exact N' p (List.mem_append_left _ hp)
  · intro h' tk m' news' F' N' _ hJ
    exact done m' news' h' tk hJ F' N'

theorem for_range {r : Addr} {b : Int} {t u v : Tok} {n : Nat} {m₀ : Str → Option Value} {news : List (Addr × Obj)} (J : Nat → (Str → Option Value) → List (Addr × Obj) → Prop)
    (hh : A.handled = none) (hr : IsRange s.heap r 0 b 1 t u v) (hsmall : Builtin.Range.small 0 b 1 = true) (hn : Builtin.Range.rangeSize 0 b 1 = (n : Int)) (F : Fr h₀ env.locals s.heap m₀) (N : News h₀ env.locals s.heap news) (hj : J 0 m₀ news)
    (turn : ∀ (i : Nat) tt m₁ news₁ h tk oI, i < n → J i m₁ news₁ → (∀ q ∈ news₁, q.1 ≠ s.heap.objs.size) → Fr h₀ env.locals h (fun y => if y = x then some (.int (i : Int) tt) else m₁ y) → News h₀ env.locals h (news₁ ++ [(s.heap.objs.size, oI)]) →
      wpAny (model prog w) A (execs body env) (TurnEnd h₀ env.locals s.heap.objs.size oI (J (i + 1)) { s with heap := h, toks := tk }) E { s with heap := h, toks := tk })
    (done : ∀ m₁ nx h tk, J n m₁ nx → Fr h₀ env.locals h m₁ → News h₀ env.locals h nx → Q .next { s with heap := h, toks := tk }) :
    wpAny (model prog w) A (pyIter (.ref r)) (fun it s₂ => LoopAtV prog w A h₀ env x body Q E it s₂) E s := by
  refine wpAny_pyIter_range hr hsmall ?_
  refine loop_one J (LCg.range_walks hh 0 n) (fun i h st => ⟨_, st⟩) (by show IsRangeIter _ _ _ _ _; rw [hn]; simpa using Heap.get?_push_size _ rfl) F N hj (fun i v m₁ news₁ h tk oI hi hP hJ hne F' N' => ?_) done
  obtain ⟨tt, rfl⟩ := hP
  rw [Int.zero_add] at F'
  exact turn i tt m₁ news₁ h tk oI hi hJ hne F' N'

theorem for_str {l : List Nat} {t : Tok} {m₀ : Str → Option Value} {news : List (Addr × Obj)} (J : Nat → (Str → Option Value) → List (Addr × Obj) → Prop)
    (hh : A.handled = none) (F : Fr h₀ env.locals s.heap m₀) (N : News h₀ env.locals s.heap news) (hj : J 0 m₀ news)
    (turn : ∀ (i : Nat) c tt m₁ news₁ h tk oI, l[i]? = some c → J i m₁ news₁ → (∀ q ∈ news₁, q.1 ≠ s.heap.objs.size) → Fr h₀ env.locals h (fun y => if y = x then some (.str ⟨#[c]⟩ tt) else m₁ y) → News h₀ env.locals h (news₁ ++ [(s.heap.objs.size, oI)]) →
      wpAny (model prog w) A (execs body env) (TurnEnd h₀ env.locals s.heap.objs.size oI (J (i + 1)) { s with heap := h, toks := tk }) E { s with heap := h, toks := tk })
    (done : ∀ m₁ nx h tk, J l.length m₁ nx → Fr h₀ env.locals h m₁ → News h₀ env.locals h nx → Q .next { s with heap := h, toks := tk }) :
    wpAny (model prog w) A (pyIter (.str ⟨l.toArray⟩ t)) (fun it s₂ => LoopAtV prog w A h₀ env x body Q E it s₂) E s := by
  have hn : (⟨l.toArray⟩ : Str).cps.size = l.length := by simp
  have hturn : ∀ i v m₁ news₁ h tk oI, i < (⟨l.toArray⟩ : Str).cps.size → SignAt ⟨l.toArray⟩ i v → J i m₁ news₁ → (∀ q ∈ news₁, q.1 ≠ s.heap.objs.size) → Fr h₀ env.locals h (fun y => if y = x then some v else m₁ y) → News h₀ env.locals h (news₁ ++ [(s.heap.objs.size, oI)]) →
      wpAny (model prog w) A (execs body env) (TurnEnd h₀ env.locals s.heap.objs.size oI (J (i + 1)) { s with heap := h, toks := tk }) E { s with heap := h, toks := tk } := by
    intro i v m₁ news₁ h tk oI hi hP hJ hne F' N'
    obtain ⟨c, u, hc, rfl⟩ := hP
    exact turn i c u m₁ news₁ h tk oI (by simpa using hc) hJ hne F' N'
  have hdone : ∀ m₁ nx h tk, J (⟨l.toArray⟩ : Str).cps.size m₁ nx → Fr h₀ env.locals h m₁ → News h₀ env.locals h nx → Q .next { s with heap := h, toks := tk } := by rw [hn]; exact done
  cases ha : (⟨l.toArray⟩ : Str).cps.all (· < 128)
  · exact wpAny_pyIter_wide ha (loop_one J (Walks.strWide hh _ ⟨l.toArray⟩ t) (fun i h st => ⟨_, st.choose_spec.1⟩) ⟨_, Heap.get?_push_size _ rfl, rfl, rfl⟩ F N hj hturn hdone)
  · exact wpAny_pyIter_ascii ha (loop_one J (Walks.strAscii hh _ ⟨l.toArray⟩ t) (fun i h st => ⟨_, st.choose_spec.1⟩) ⟨_, Heap.get?_push_size _ rfl, rfl, rfl⟩ F N hj hturn hdone)
end

/-- a goal that the walk leaves alone -/
def Hold (P : Prop) : Prop := P
theorem hold_out {P : Prop} (h : Hold P) : P := h

section
variable {prog : Program} {w : World} {A : Around} {E : Value → Shared → Prop} {s : Shared} {h₀ : Heap} {L : Addr} {m : Str → Option Value} {news : List (Addr × Obj)}
theorem item_my {value slice : PySem.Expr} {l : Addr} {its : Array Value} {n k : Nat} {u : Tok} {v : Value} {Q : Value → Shared → Prop} (N : News h₀ L s.heap news) (hm : (l, W.listOf its n) ∈ news) (hx : its[k]? = some v) (hk : k < 1000000) (h : Q v s)
    (hs : subscripted slice false (.ref l) (.int (k : Int) u) = operate [.ref l, .int (k : Int) u] (getItem (.ref l) (.int (k : Int) u)) := by with_unfolding_all rfl) :
    wpAny (model prog w) A (subscriptTail value slice (.ref l) (.int (k : Int) u)) Q E s := by
  have hl : s.heap.IsList l its := ⟨_, (N _ hm).1, rfl, _, rfl⟩
  exact tail_any hl.typeIs slot_list_getitem.lookup (wpAny_getItem_list hl (by omega) (by omega) (by simpa using hx) h) hs
theorem append_my {B : Addr} {ys : List Value} {nn : Nat} {y : Value} {Q : Value → Shared → Prop} (F : Fr h₀ L s.heap m) (N : News h₀ L s.heap ((B, W.listOf ys.toArray nn) :: news)) (hB : ∀ p ∈ news, p.1 ≠ B) (hz : ys.length ≤ 1000)
    (h : ∀ h', Fr h₀ L h' m → News h₀ L h' ((B, W.listOf (ys ++ [y]).toArray (nn + 1)) :: news) → Q .none { s with heap := h' }) : wpAny (model prog w) A (call (.builtin "list.append") [.ref B, y]) Q E s := by
  refine append_K (its := ys.toArray) (n := nn) F N (Upd.head hB) (fun h' F' N' => h h' F' ?_) (by rw [List.size_toArray, sizeLine_eq]; omega)
  rw [List.push_toArray] at N'
  exact N'
end
end Mine
end

-- WayP
section
open PySem PySem.W PyProof.Rows PyProof.V PySem.Spec
set_option Elab.async false
set_option maxRecDepth 100000
set_option maxHeartbeats 4000000
namespace Mine

def ampS : List Nat := [97, 109, 112, 59]
def spellC (later : Nat) (T : Tab) (c : Nat) : List Nat := match T.lookup c with
  | some z => 38 :: ((List.replicate later ampS).flatten ++ z)
  | none => []
def stayC (T : Tab) (c : Nat) : List Nat := if (T.lookup c).isSome then [] else [c]
def NT (r : Int) : Tab := [nt0, nt1, nt2, nt3, nt4].getD r.toNat []
def leftF (r : Int) (lf : List Nat) : List Nat := if (r = 5 ∨ r = 6) ∧ (lf = [13] ∨ lf = [10]) then [13, 10] else lf
def laterN (run : List Int) (k : Nat) : Nat := ((run.drop (k + 1)).filter fun a => decide (a < 5)).length
def turnF (run : List Int) (k : Nat) (r : Int) (sp lf : List Nat) : List Nat × List Nat :=
  if r < 5 then (sp ++ (leftF r lf).flatMap (spellC (laterN run k) (NT r)), (leftF r lf).flatMap (stayC (NT r))) else (sp, leftF r lf)
def wayN (run : List Int) (mk : List Nat) : Nat → List Nat × List (List Nat)
  | 0 => ([], [mk])
  | k + 1 =>
    let t := turnF run k (run.getD k 0) (wayN run mk k).1 ((wayN run mk k).2.getD k [])
    (t.1, (wayN run mk k).2 ++ [t.2])

theorem wayN_len (run : List Int) (mk : List Nat) : ∀ k, (wayN run mk k).2.length = k + 1
  | 0 => rfl
  | k + 1 => by rw [wayN]; simp [wayN_len run mk k]

theorem know5 {m₁ : Str → Option Value} {x a b c d e : Str} {v va vb vc vd ve : Value} (ha : m₁ a = some va) (hb : m₁ b = some vb) (hc : m₁ c = some vc) (hd : m₁ d = some vd) (he : m₁ e = some ve) :
    (fun y => if y = x then some v else m₁ y) = fun y => if y = x then some v else if y = a then some va else if y = b then some vb else if y = c then some vc else if y = d then some vd else if y = e then some ve else m₁ y := by
  funext y
  by_cases h0 : y = x
  · rw [if_pos h0, if_pos h0]
  · rw [if_neg h0, if_neg h0]
    by_cases h1 : y = a
    · rw [if_pos h1, h1, ha]
    · rw [if_neg h1]
      by_cases h2 : y = b
      · rw [if_pos h2, h2, hb]
      · rw [if_neg h2]
        by_cases h3 : y = c
        · rw [if_pos h3, h3, hc]
        · rw [if_neg h3]
          by_cases h4 : y = d
          · rw [if_pos h4, h4, hd]
          · rw [if_neg h4]
            by_cases h5 : y = e
            · rw [if_pos h5, h5, he]
            · rw [if_neg h5]

abbrev nK : Str := Str.ofString "k"
abbrev nSp : Str := Str.ofString "spelled"
abbrev nBa : Str := Str.ofString "bare"
abbrev nRu : Str := Str.ofString "run"
abbrev nNa : Str := Str.ofString "names"

/-- what holds behind i turns of _law_way's loop -/
def WayJ (mk : List Nat) (run : List Int) (B Lr Ln : Addr) (rest : List (Addr × Obj)) (i : Nat) (m₁ : Str → Option Value) (nx : List (Addr × Obj)) : Prop :=
  ∃ ys nn t1, StrsAre ys ((wayN run mk i).2.map S) ∧ nx = (B, W.listOf ys.toArray nn) :: rest ∧ m₁ (Str.ofString "spelled") = some (.str (S (wayN run mk i).1) t1) ∧ m₁ (Str.ofString "bare") = some (.ref B) ∧ m₁ (Str.ofString "run") = some (.ref Lr) ∧ m₁ (Str.ofString "names") = some (.ref Ln)

/-- the end of a turn of _law_way's loop -/
def WayEnd (h₀ : Heap) (L B Lr Ln : Addr) (rest : List (Addr × Obj)) (ys : List Value) (nn : Nat) (out : List Nat × List Nat) (s : Shared) (f : Flow) (s₂ : Shared) : Prop :=
  f = .next ∧ ∃ (h' : Heap) (tk' : Nat) (m₂ : Str → Option Value) (t3 t4 : Tok), s₂ = { s with heap := h', toks := tk' } ∧ Fr h₀ L h' m₂ ∧ News h₀ L h' ((B, W.listOf (ys ++ [Value.str (S out.2) t4]).toArray (nn + 1)) :: rest) ∧
    m₂ (Str.ofString "spelled") = some (.str (S out.1) t3) ∧ m₂ (Str.ofString "bare") = some (.ref B) ∧ m₂ (Str.ofString "run") = some (.ref Lr) ∧ m₂ (Str.ofString "names") = some (.ref Ln)
theorem wayEnd_of {h₀ h' : Heap} {L B Lr Ln : Addr} {rest : List (Addr × Obj)} {ys : List Value} {nn tk' : Nat} {out : List Nat × List Nat} {s : Shared} {m₂ : Str → Option Value} {t3 t4 : Tok} {sp lf : List Nat} (F : Fr h₀ L h' m₂)
    (N : News h₀ L h' ((B, W.listOf (ys ++ [Value.str (S lf) t4]).toArray (nn + 1)) :: rest)) (e : out = (sp, lf)) (h1 : m₂ (Str.ofString "spelled") = some (.str (S sp) t3)) (h2 : m₂ (Str.ofString "bare") = some (.ref B)) (h3 : m₂ (Str.ofString "run") = some (.ref Lr))
    (h4 : m₂ (Str.ofString "names") = some (.ref Ln)) : WayEnd h₀ L B Lr Ln rest ys nn out s .next { s with heap := h', toks := tk' } := by
  subst e
  exact ⟨rfl, h', tk', m₂, t3, t4, rfl, F, N, h1, h2, h3, h4⟩

theorem strs_get {ys : List Value} {l : List Str} (h : StrsAre ys l) : ∀ i, i < l.length → ∃ t, ys[i]? = some (.str (l.getD i Str.empty) t) := by
  induction h with
  | nil => intro i hi; cases hi
  | cons y t _ ih =>
    intro i hi
    cases i with
    | zero => exact ⟨t, rfl⟩
    | succ i => simpa using ih i (by simpa using hi)
theorem strs_len {ys : List Value} {l : List Str} (h : StrsAre ys l) : ys.length = l.length := by
  induction h with
  | nil => rfl
  | cons y t _ ih => simp [ih]
theorem strs_snoc {ys : List Value} {l : List Str} {y : Str} {t : Tok} (h : StrsAre ys l) : StrsAre (ys ++ [.str y t]) (l ++ [y]) := by
  induction h with
  | nil => exact .cons y t .nil
  | cons z u _ ih => exact .cons z u ih

section
variable {prog : Program} {w : World} {A : Around} {E : Value → Shared → Prop} {s : Shared} {env : Env} {h₀ : Heap} {body : List Stmt} {Q : Flow → Shared → Prop}

theorem way_loop {mk : List Nat} {run : List Int} {B Lr Ln r : Addr} {rest : List (Addr × Obj)} {t u v t0 t1 : Tok} {m₀ : Str → Option Value} {k0 : Nat}
    (hh : A.handled = none) (hr : IsRange s.heap r 0 6 1 t u v) (F : Fr h₀ env.locals s.heap m₀) (N : News h₀ env.locals s.heap ((B, W.listOf #[.str (S mk) t0] k0) :: rest)) (hB : ∀ p ∈ rest, p.1 ≠ B)
    (hsp : m₀ (Str.ofString "spelled") = some (.str (S []) t1)) (hba : m₀ (Str.ofString "bare") = some (.ref B)) (hru : m₀ (Str.ofString "run") = some (.ref Lr)) (hna : m₀ (Str.ofString "names") = some (.ref Ln))
    (turn : ∀ (i : Nat) (tt : Tok) (ys : List Value) (nn : Nat) (tb t2 : Tok) (m₁ : Str → Option Value) (h : Heap) (tk : Nat) (I : Addr) (oI : Obj), i < 6 → StrsAre ys ((wayN run mk i).2.map S) → ys[i]? = some (.str (S ((wayN run mk i).2.getD i [])) tb) → ys.length = i + 1 → (∀ p ∈ rest ++ [(I, oI)], p.1 ≠ B) →
      Fr h₀ env.locals h (fun y => if y = Str.ofString "k" then some (.int (i : Int) tt) else if y = Str.ofString "spelled" then some (.str (S (wayN run mk i).1) t2) else if y = Str.ofString "bare" then some (.ref B) else if y = Str.ofString "run" then some (.ref Lr) else if y = Str.ofString "names" then some (.ref Ln) else if y = Str.ofString "names" then some (.ref Ln) else m₁ y) →
      News h₀ env.locals h ((B, W.listOf ys.toArray nn) :: (rest ++ [(I, oI)])) →
      wpAny (model prog w) A (execs body env) (WayEnd h₀ env.locals B Lr Ln (rest ++ [(I, oI)]) ys nn (turnF run i (run.getD i 0) (wayN run mk i).1 ((wayN run mk i).2.getD i [])) s) E { s with heap := h, toks := tk })
    (done : ∀ (ys : List Value) (nn : Nat) (t2 : Tok) (m₁ : Str → Option Value) (h : Heap) (tk : Nat), StrsAre ys ((wayN run mk 6).2.map S) → m₁ (Str.ofString "spelled") = some (.str (S (wayN run mk 6).1) t2) → m₁ (Str.ofString "bare") = some (.ref B) → Fr h₀ env.locals h m₁ → News h₀ env.locals h ((B, W.listOf ys.toArray nn) :: rest) → Q .next { s with heap := h, toks := tk }) :
    wpAny (model prog w) A (pyIter (.ref r)) (fun it s₂ => LoopAtV prog w A h₀ env (Str.ofString "k") body Q E it s₂) E s := by
  refine for_range (n := 6) (WayJ mk run B Lr Ln rest) hh hr (by decide +kernel) (by decide +kernel) F N ⟨[.str (S mk) t0], k0, t1, .cons _ _ .nil, rfl, hsp, hba, hru, hna⟩ (fun i tt m₁ news₁ h tk oI hi hJ hne F' N' => ?_) (fun m₁ nx h tk hJ F' N' => ?_)
  · obtain ⟨ys, nn, t2, hS, rfl, e1, e2, e3, e4⟩ := hJ
    have hlen : ys.length = i + 1 := by rw [strs_len hS, List.length_map, wayN_len]
    obtain ⟨tb, htb⟩ := strs_get hS i (by rw [List.length_map, wayN_len]; omega)
    have hg : ((wayN run mk i).2.map S).getD i Str.empty = S ((wayN run mk i).2.getD i []) := by
      rw [List.getD_eq_getElem?_getD, List.getD_eq_getElem?_getD, List.getElem?_map]
      cases (wayN run mk i).2[i]? <;> rfl
    rw [hg] at htb
    rw [know5 e1 e2 e3 e4 e4] at F'
    refine wpAny_mono (turn i tt ys nn tb t2 m₁ h tk _ oI hi hS htb hlen (fun p hp => ?_) F' N') (fun f s₂ hq => ?_) fun _ _ e => e
    · rcases List.mem_append.mp hp with hp | hp
      · exact hB p hp
      · rw [List.mem_singleton.mp hp]
        exact Ne.symm (hne _ (List.mem_cons_self ..))
    · obtain ⟨rfl, h', tk', m₂, t3, t4, e, F2, N2, g1, g2, g3, g4⟩ := hq
      refine ⟨rfl, h', tk', m₂, _, e, F2, N2, ?_, _, _, t3, ?_, rfl, ?_, g2, g3, g4⟩
      · intro q hq
        rcases List.mem_cons.mp hq with rfl | hq
        · exact hne (B, W.listOf ys.toArray nn) (List.mem_cons_self ..)
        · exact hne _ (List.mem_cons_of_mem _ hq)
      · rw [wayN, List.map_append]
        exact strs_snoc hS
      · rw [wayN]
        exact g1
  · obtain ⟨ys, nn, t2, hS, rfl, e1, e2, e3, e4⟩ := hJ
    exact done ys nn t2 m₁ h tk hS e1 e2 F' N'
end
end Mine
end

-- WayR
section
open PySem PySem.W PyProof.Rows PyProof.V PySem.Spec
set_option Elab.async false
set_option maxRecDepth 100000
set_option maxHeartbeats 4000000
namespace Mine

theorem S_app (a b : List Nat) : S a ++ S b = S (a ++ b) := Str.ext' (by rw [Str.cps_append]; simp)
theorem S_inj {a b : List Nat} (h : S a = S b) : a = b := by
  have := congrArg (fun x : Str => x.cps.toList) h
  simpa using this

theorem lookup_names (T : Tab) (c : Nat) : Spec.lookup (.str (S [c])) (T.map fun p => (PyData.str (S [p.1]), PyData.str (S p.2))) = (T.lookup c).map fun z => PyData.str (S z) := by
  induction T with
  | nil => rfl
  | cons p r ih =>
    obtain ⟨a, z⟩ := p
    rw [List.map_cons, Spec.lookup, ih, List.lookup_cons]
    have e : same (PyData.str (S [a])) (PyData.str (S [c])) = decide (S [a] = S [c]) := same_str _ _
    rw [e]
    by_cases h : c = a
    · subst h; simp
    · have h1 : (c == a) = false := by simpa using h
      have h2 : ¬ S [a] = S [c] := fun q => h (by have := S_inj q; simpa using this.symm)
      rw [h1]
      simp [h2]

section
variable {prog : Program} {w : World} {A : Around} {E : Value → Shared → Prop} {s : Shared} {h₀ : Heap} {L : Addr} {m : Str → Option Value} {news : List (Addr × Obj)}

theorem name_tab {T : Tab} {d : Addr} {o : Obj} (N : News h₀ L s.heap news) (hm : (d, o) ∈ news) (h : NameObj prog w T d o) :
    StrTab prog w s.heap d (T.map fun p => (PyData.str (S [p.1]), PyData.str (S p.2))) := by
  obtain ⟨lo, kvs, h1, h2⟩ := h
  exact TabAt.ofObj lo (N _ hm).1 h1 h2

theorem in_name {T : Tab} {d : Addr} {o : Obj} {c : Nat} {t : Tok} {b : Bool} {Q : Value → Shared → Prop} (N : News h₀ L s.heap news) (hm : (d, o) ∈ news) (h : NameObj prog w T d o) (hb : (T.lookup c).isSome = b) (hQ : ∀ k, Q (.bool b) { s with toks := k }) :
    wpAny (model prog w) A (compareOp .In (.str ⟨#[c]⟩ t) (.ref d)) Q E s := by
  refine in_strTab (name_tab N hm h) ?_
  have e : Spec.lookup (.str ⟨#[c]⟩) (T.map fun p => (PyData.str (S [p.1]), PyData.str (S p.2))) = (T.lookup c).map fun z => PyData.str (S z) := lookup_names T c
  rw [e, Option.isSome_map, hb]
  exact hQ _

theorem item_name {value slice : PySem.Expr} {T : Tab} {d : Addr} {o : Obj} {c : Nat} {t : Tok} {z : List Nat} {Q : Value → Shared → Prop} (N : News h₀ L s.heap news) (hm : (d, o) ∈ news) (h : NameObj prog w T d o) (hz : T.lookup c = some z) (hQ : ∀ u k, Q (.str (S z) u) { s with toks := k })
    (hs : subscripted slice false (.ref d) (.str ⟨#[c]⟩ t) = operate [.ref d, .str ⟨#[c]⟩ t] (getItem (.ref d) (.str ⟨#[c]⟩ t)) := by with_unfolding_all rfl) (hg : ∀ r, letTemporaryGo value (.ref d) r = pure () := by intro _; with_unfolding_all rfl) :
    wpAny (model prog w) A (subscriptTail value slice (.ref d) (.str ⟨#[c]⟩ t)) Q E s := by
  have e : Spec.lookup (.str ⟨#[c]⟩) (T.map fun p => (PyData.str (S [p.1]), PyData.str (S p.2))) = some (PyData.str (S z)) := (lookup_names T c).trans (by rw [hz]; rfl)
  refine item_strTab (name_tab N hm h) e (fun v hv => ?_) hs hg
  have hv' := hv s.heap
  cases hv'
  exact hQ _ _

theorem add_S {x y : Str} {a b : List Nat} {t u : Tok} {Q : Value → Shared → Prop} (hx : x = S a) (hy : y = S b) (ha : a.length ≤ 1000000) (hb : b.length ≤ 1000000) (h : ∀ t' k, Q (.str (S (a ++ b)) t') { s with toks := k }) : wpAny (model prog w) A (binaryOp .Add (.str x t) (.str y u)) Q E s := by
  subst hx hy
  refine KXadd.add (K := 1000000) (L := 1000000) (by simpa [Str.length] using ha) (by simpa [Str.length] using hb) (by decide) fun t' k _ => ?_
  rw [S_app]
  exact h t' k

theorem iadd_S {x y : Str} {a b : List Nat} {t u : Tok} {Q : Value → Shared → Prop} (hx : x = S a) (hy : y = S b) (ha : a.length ≤ 1000000) (hb : b.length ≤ 1000000) (h : ∀ t' k, Q (.str (S (a ++ b)) t') { s with toks := k }) : wpAny (model prog w) A (inplaceOp .Add (.str x t) (.str y u)) Q E s := by
  subst hx hy
  refine PyProof.Rows.iadd_str (fun t' k => ?_) ?_
  · rw [S_app]
    exact h t' k
  · have h1 : (S a).length = a.length := by simp [Str.length]
    have h2 : (S b).length = b.length := by simp [Str.length]
    rw [h1, h2, sizeLine_eq]
    omega
theorem mul_S {x : Str} {a : List Nat} {n : Nat} {t u : Tok} {Q : Value → Shared → Prop} (hx : x = S a) (ha : a.length ≤ 100) (hn : n ≤ 100) (h : ∀ t' k, Q (.str (S (List.replicate n a).flatten) t') { s with toks := k }) : wpAny (model prog w) A (binaryOp .Mult (.str x t) (.int (n : Int) u)) Q E s := by
  subst hx
  refine SB.mul ?_ fun t' k => ?_
  · have hl : (S a).length = a.length := by simp [Str.length]
    refine ⟨by simp; omega, fun h1 h2 => ?_, fun h1 h2 => ?_⟩
    · rw [hl]
      have : (100 : Int) ≤ (2 ^ 63 - 1) / (n : Int) := by
        rw [Int.le_ediv_iff_mul_le (by omega)]
        omega
      omega
    · rw [hl]
      have : a.length * n ≤ 100 * 100 := Nat.mul_le_mul ha hn
      simp only [Int.toNat_natCast]
      unfold Builtin.Str.tooLong
      rw [sizeLine_eq]
      exact decide_eq_false (by omega)
  · have e : Txt.mul (S a) (n : Int) = S (List.replicate n a).flatten := by
      unfold Txt.mul
      have key : ∀ (n : Nat) (b : Array Nat), (List.replicate n (S a).cps).foldl (· ++ ·) b = b ++ (List.replicate n a).flatten.toArray := by
        intro n
        induction n with
        | zero => intro b; simp
        | succ n ih =>
          intro b
          rw [List.replicate_succ, List.foldl_cons, ih, List.replicate_succ, List.flatten_cons]
          simp
      by_cases h1 : (n : Int) < 1
      · rw [if_pos h1]
        have : n = 0 := by omega
        subst this
        rfl
      · rw [if_neg h1]
        by_cases h2 : ((n : Int) == 1 || (S a).length == 0) = true
        · rw [if_pos h2]
          simp only [Bool.or_eq_true, beq_iff_eq] at h2
          rcases h2 with h2 | h2
          · have : n = 1 := by omega
            subst this
            simp
          · have : a = [] := by
              have : a.length = 0 := by simpa [Str.length] using h2
              exact List.length_eq_zero_iff.mp this
            subst this
            simp
        · rw [if_neg h2, Int.toNat_natCast, key]
          simp
    rw [e]
    exact h t' k
end

theorem know_cons {m₁ f : Str → Option Value} {a : Str} {v : Value} (h : m₁ a = some v) (e : m₁ = f) : m₁ = fun y => if y = a then some v else f y := by
  funext y
  by_cases hy : y = a
  · rw [if_pos hy, hy, h]
  · rw [if_neg hy, e]

/-- the end of a turn of the loop over the signs -/
def SignEnd (h₀ : Heap) (L B Lr Ln : Addr) (kk : Int) (later : Nat) (rest : List (Addr × Obj)) (sp st : List Nat) (s : Shared) (f : Flow) (s₂ : Shared) : Prop :=
  f = .next ∧ ∃ (h' : Heap) (tk' : Nat) (m₂ : Str → Option Value) (t3 t4 t5 t6 : Tok), s₂ = { s with heap := h', toks := tk' } ∧ Fr h₀ L h' m₂ ∧ News h₀ L h' rest ∧ m₂ (Str.ofString "spelled") = some (.str (S sp) t3) ∧ m₂ (Str.ofString "stay") = some (.str (S st) t4) ∧
    m₂ (Str.ofString "bare") = some (.ref B) ∧ m₂ (Str.ofString "run") = some (.ref Lr) ∧ m₂ (Str.ofString "names") = some (.ref Ln) ∧ m₂ (Str.ofString "k") = some (.int kk t5) ∧ m₂ (Str.ofString "later") = some (.int (later : Int) t6)
theorem signEnd_of {h₀ h' : Heap} {L B Lr Ln : Addr} {kk : Int} {later tk' : Nat} {rest : List (Addr × Obj)} {sp st sp' st' : List Nat} {s : Shared} {m₂ : Str → Option Value} {t3 t4 t5 t6 : Tok} (F : Fr h₀ L h' m₂) (N : News h₀ L h' rest) (e1 : sp = sp') (e2 : st = st')
    (h1 : m₂ (Str.ofString "spelled") = some (.str (S sp') t3)) (h2 : m₂ (Str.ofString "stay") = some (.str (S st') t4)) (h3 : m₂ (Str.ofString "bare") = some (.ref B)) (h4 : m₂ (Str.ofString "run") = some (.ref Lr)) (h5 : m₂ (Str.ofString "names") = some (.ref Ln))
    (h6 : m₂ (Str.ofString "k") = some (.int kk t5)) (h7 : m₂ (Str.ofString "later") = some (.int (later : Int) t6)) : SignEnd h₀ L B Lr Ln kk later rest sp st s .next { s with heap := h', toks := tk' } := by
  subst e1 e2
  exact ⟨rfl, h', tk', m₂, t3, t4, t5, t6, rfl, F, N, h1, h2, h3, h4, h5, h6, h7⟩

def SignJ (lf sp : List Nat) (later : Nat) (T : Tab) (B Lr Ln : Addr) (kk : Int) (news : List (Addr × Obj)) (j : Nat) (m₁ : Str → Option Value) (nx : List (Addr × Obj)) : Prop :=
  nx = news ∧ ∃ (t3 t4 t5 t6 : Tok), m₁ (Str.ofString "spelled") = some (.str (S (sp ++ (lf.take j).flatMap (spellC later T))) t3) ∧ m₁ (Str.ofString "stay") = some (.str (S ((lf.take j).flatMap (stayC T))) t4) ∧
    m₁ (Str.ofString "bare") = some (.ref B) ∧ m₁ (Str.ofString "run") = some (.ref Lr) ∧ m₁ (Str.ofString "names") = some (.ref Ln) ∧ m₁ (Str.ofString "k") = some (.int kk t5) ∧ m₁ (Str.ofString "later") = some (.int (later : Int) t6)

section
variable {prog : Program} {w : World} {A : Around} {E : Value → Shared → Prop} {s : Shared} {env : Env} {h₀ : Heap} {body : List Stmt} {Q : Flow → Shared → Prop}
theorem sign_loop {lf sp : List Nat} {later : Nat} (T : Tab) {B Lr Ln : Addr} {kk : Int} {news : List (Addr × Obj)} {t t3 t4 t5 t6 : Tok} {m₀ : Str → Option Value}
    (hh : A.handled = none) (F : Fr h₀ env.locals s.heap m₀) (N : News h₀ env.locals s.heap news)
    (h1 : m₀ (Str.ofString "spelled") = some (.str (S sp) t3)) (h2 : m₀ (Str.ofString "stay") = some (.str (S []) t4)) (h3 : m₀ (Str.ofString "bare") = some (.ref B)) (h4 : m₀ (Str.ofString "run") = some (.ref Lr)) (h5 : m₀ (Str.ofString "names") = some (.ref Ln))
    (h6 : m₀ (Str.ofString "k") = some (.int kk t5)) (h7 : m₀ (Str.ofString "later") = some (.int (later : Int) t6))
    (turn : ∀ (j c : Nat) (tt t3 t4 t5 t6 : Tok) (m₁ : Str → Option Value) (h : Heap) (tk : Nat) (I : Addr) (oI : Obj), lf[j]? = some c →
      Fr h₀ env.locals h (fun y => if y = Str.ofString "sign" then some (.str ⟨#[c]⟩ tt) else if y = Str.ofString "spelled" then some (.str (S (sp ++ (lf.take j).flatMap (spellC later T))) t3) else if y = Str.ofString "stay" then some (.str (S ((lf.take j).flatMap (stayC T))) t4) else
        if y = Str.ofString "bare" then some (.ref B) else if y = Str.ofString "run" then some (.ref Lr) else if y = Str.ofString "names" then some (.ref Ln) else if y = Str.ofString "k" then some (.int kk t5) else if y = Str.ofString "later" then some (.int (later : Int) t6) else m₁ y) →
      News h₀ env.locals h (news ++ [(I, oI)]) →
      wpAny (model prog w) A (execs body env) (SignEnd h₀ env.locals B Lr Ln kk later (news ++ [(I, oI)]) (sp ++ (lf.take j).flatMap (spellC later T) ++ spellC later T c) ((lf.take j).flatMap (stayC T) ++ stayC T c) s) E { s with heap := h, toks := tk })
    (done : ∀ (t3 t4 : Tok) (m₁ : Str → Option Value) (h : Heap) (tk : Nat),
      Fr h₀ env.locals h (fun y => if y = Str.ofString "spelled" then some (.str (S (sp ++ lf.flatMap (spellC later T))) t3) else if y = Str.ofString "stay" then some (.str (S (lf.flatMap (stayC T))) t4) else
        if y = Str.ofString "bare" then some (.ref B) else if y = Str.ofString "run" then some (.ref Lr) else if y = Str.ofString "names" then some (.ref Ln) else m₁ y) →
      News h₀ env.locals h news → Q .next { s with heap := h, toks := tk }) :
    wpAny (model prog w) A (pyIter (.str ⟨lf.toArray⟩ t)) (fun it s₂ => LoopAtV prog w A h₀ env (Str.ofString "sign") body Q E it s₂) E s := by
  refine for_str (l := lf) (SignJ lf sp later T B Lr Ln kk news) hh F N ⟨rfl, t3, t4, t5, t6, by simpa using h1, by simpa using h2, h3, h4, h5, h6, h7⟩ (fun j c tt m₁ news₁ h tk oI hc hJ hne F' N' => ?_) (fun m₁ nx h tk hJ F' N' => ?_)
  · obtain ⟨rfl, t3, t4, t5, t6, g1, g2, g3, g4, g5, g6, g7⟩ := hJ
    have e := know_cons g1 (know_cons g2 (know_cons g3 (know_cons g4 (know_cons g5 (know_cons g6 (know_cons g7 (rfl : m₁ = m₁)))))))
    have F2 := (congrArg (fun g : Str → Option Value => fun y => if y = Str.ofString "sign" then some (Value.str ⟨#[c]⟩ tt) else g y) e) ▸ F'
    refine wpAny_mono (turn j c tt t3 t4 t5 t6 m₁ h tk _ oI hc F2 N') (fun f s₂ hq => ?_) fun _ _ e => e
    obtain ⟨rfl, h', tk', m₂, t3', t4', t5', t6', e, F3, N3, g1, g2, g3, g4, g5, g6, g7⟩ := hq
    refine ⟨rfl, h', tk', m₂, _, e, F3, N3, hne, rfl, t3', t4', t5', t6', ?_, ?_, g3, g4, g5, g6, g7⟩
    · rw [List.take_add_one, hc, List.flatMap_append, ← List.append_assoc]
      simpa using g1
    · rw [List.take_add_one, hc, List.flatMap_append]
      simpa using g2
  · obtain ⟨rfl, t3, t4, t5, t6, g1, g2, g3, g4, g5, g6, g7⟩ := hJ
    rw [List.take_length] at g1 g2
    have e := know_cons g1 (know_cons g2 (know_cons g3 (know_cons g4 (know_cons g5 (rfl : m₁ = m₁)))))
    exact done t3 t4 m₁ h tk (e ▸ F') N'
end
theorem drop_to {h₀ h : Heap} {L B : Addr} {o : Obj} {rest all : List (Addr × Obj)} (_hne : ∀ p ∈ rest, p.1 ≠ B) (N : News h₀ L h all) (hs : ∀ p ∈ (B, o) :: rest, p ∈ all) : News h₀ L h ((B, o) :: rest) := fun p hp => N p (hs p hp)

theorem look_mem {T : Tab} {c : Nat} {z : List Nat} (h : T.lookup c = some z) : (c, z) ∈ T := by
  induction T with
  | nil => cases h
  | cons p r ih =>
    obtain ⟨a, b⟩ := p
    rw [List.lookup_cons] at h
    split at h
    · rename_i q
      cases h
      rw [beq_iff_eq.mp q]
      exact List.mem_cons_self ..
    · exact List.mem_cons_of_mem _ (ih h)
def Short (T : Tab) : Prop := ∀ p ∈ T, p.2.length ≤ 10
theorem rep_len (n : Nat) (a : List Nat) : (List.replicate n a).flatten.length = n * a.length := by
  induction n with
  | zero => simp
  | succ n ih => rw [List.replicate_succ, List.flatten_cons, List.length_append, ih, Nat.succ_mul]; omega
theorem spellC_len {later : Nat} {T : Tab} (hl : later ≤ 6) (hT : Short T) (c : Nat) : (spellC later T c).length ≤ 40 := by
  unfold spellC
  cases h : T.lookup c with
  | none => simp
  | some z =>
    have := hT _ (look_mem h)
    simp only [List.length_cons, List.length_append, rep_len, ampS]
    simp only [List.length_cons, List.length_nil]
    have h2 : later * 4 ≤ 24 := by omega
    have : z.length ≤ 10 := this
    omega
theorem flat_le {f : Nat → List Nat} {b : Nat} (h : ∀ c, (f c).length ≤ b) (l : List Nat) : (l.flatMap f).length ≤ b * l.length := by
  induction l with
  | nil => simp
  | cons c r ih =>
    rw [List.flatMap_cons, List.length_append, List.length_cons, Nat.mul_succ]
    have := h c
    omega
theorem stayC_len (T : Tab) (c : Nat) : (stayC T c).length ≤ 1 := by
  unfold stayC
  split <;> simp
theorem short_NT (r : Int) : Short (NT r) := by
  unfold NT
  rw [List.getD_eq_getElem?_getD]
  cases h : [nt0, nt1, nt2, nt3, nt4][r.toNat]? with
  | none => intro p hp; cases hp
  | some T =>
    have hm : T ∈ [nt0, nt1, nt2, nt3, nt4] := List.mem_of_getElem? h
    have key : ∀ T ∈ [nt0, nt1, nt2, nt3, nt4], ∀ p ∈ T, p.2.length ≤ 10 := by decide
    exact key T hm
theorem laterN_le (run : List Int) (k : Nat) (h : run.length = 6) : laterN run k ≤ 6 := by
  refine Nat.le_trans (List.length_filter_le _ _) ?_
  rw [List.length_drop]; omega
theorem leftF_len {r : Int} {lf : List Nat} (h : lf.length ≤ 2) : (leftF r lf).length ≤ 2 := by
  unfold leftF
  split
  · decide
  · exact h
theorem turnF_bound {run : List Int} {k : Nat} {r : Int} {sp lf : List Nat} {b : Nat} (h : run.length = 6) (hs : sp.length ≤ b) (hl : lf.length ≤ 2) : (turnF run k r sp lf).1.length ≤ b + 80 ∧ (turnF run k r sp lf).2.length ≤ 2 := by
  have h2 := leftF_len (r := r) hl
  unfold turnF
  split
  · have h3 := flat_le (spellC_len (laterN_le run k h) (short_NT r)) (leftF r lf)
    have h4 := flat_le (stayC_len (NT r)) (leftF r lf)
    simp only [List.length_append]
    omega
  · exact ⟨by simp only; omega, h2⟩
theorem wayN_bound (run : List Int) (mk : List Nat) (hmk : mk.length ≤ 2) (h : run.length = 6) : ∀ k, k ≤ 6 → (wayN run mk k).1.length ≤ 10000 ∧ ((wayN run mk k).2.getD k []).length ≤ 2 := by
  have key : ∀ k, (wayN run mk k).1.length ≤ 80 * k ∧ ((wayN run mk k).2.getD k []).length ≤ 2 := by
    intro k
    induction k with
    | zero => exact ⟨by simp [wayN], by simpa [wayN] using hmk⟩
    | succ k ih =>
      have hb := turnF_bound (run := run) (k := k) (r := run.getD k 0) h ih.1 ih.2
      rw [wayN]
      refine ⟨by have := hb.1; simp only; omega, ?_⟩
      have hl := wayN_len run mk k
      rw [List.getD_eq_getElem?_getD, List.getElem?_append_right (by omega), hl]
      simpa using hb.2
  intro k hk
  have := key k
  exact ⟨by omega, this.2⟩
theorem any_eol (lf : List Nat) : ([Str.ofString "\r", Str.ofString "\n"].any fun x => x == S lf) = decide (lf = [13] ∨ lf = [10]) := by
  rw [lit_cr, lit_lf]
  have e : ∀ a : List Nat, (S a == S lf) = decide (lf = a) := by
    intro a
    by_cases h : lf = a
    · subst h; simp
    · have h2 : ¬ S a = S lf := fun q => h (S_inj q).symm
      simp [h, h2]
  simp only [List.any_cons, List.any_nil, Bool.or_false, e]
  rw [Bool.decide_or]
theorem turnF_eol {run : List Int} {k : Nat} {r : Int} {sp lf : List Nat} (hr : r = 5 ∨ r = 6) (h : ([Str.ofString "\r", Str.ofString "\n"].any fun x => x == S lf) = true) : turnF run k r sp lf = (sp, [13, 10]) := by
  rw [any_eol, decide_eq_true_eq] at h
  unfold turnF leftF
  rw [if_neg (by omega), if_pos ⟨hr, h⟩]
theorem turnF_no {run : List Int} {k : Nat} {r : Int} {sp lf : List Nat} (hr : 5 ≤ r) (h : ([Str.ofString "\r", Str.ofString "\n"].any fun x => x == S lf) = false) : turnF run k r sp lf = (sp, lf) := by
  rw [any_eol, decide_eq_false_iff_not] at h
  unfold turnF leftF
  rw [if_neg (by omega), if_neg fun q => h q.2]
end Mine
end

-- Comp2
section
open PySem PySem.W PyProof.Rows PySem.Calls
set_option Elab.async false
set_option maxRecDepth 100000
set_option maxHeartbeats 4000000
namespace Mine
section
variable {prog : Program} {w : World} {A : Around} {E : Value → Shared → Prop} {s : Shared} {h₀ : Heap} {L : Addr} {m : Str → Option Value} {env : Env} {news : List (Addr × Obj)}

theorem ints_snoc {vs : List Value} {ns : List Int} {n : Int} {t : Tok} (h : IntsAre vs ns) : IntsAre (vs ++ [.int n t]) (ns ++ [n]) := by
  induction h with
  | nil => exact .cons n t .nil
  | cons a u _ ih => exact .cons a u ih

theorem restT_of {ct elt : Expr} {x : Str} {scope : Scope} {cl : List (Str × Addr)} {S : List (Addr × Obj) → Prop} {Fin : List Value → List (Addr × Obj) → Prop} {its : Array Value} {ns : List Int} (p : Int → Bool) (hi : IntsAre its.toList ns) (hS : S news)
    (test : ∀ (n : Int) (t : Tok) I oI C oC D m₂ ys h tk (E' : Value → Shared → Prop), n ∈ ns → LCg.NsObj oC m₂ → m₂ x = some (.int n t) → Fr h₀ L h m → News h₀ L h ((I, oI) :: (C, oC) :: (D, LCg.lst ys) :: news) →
      wpAny (model prog w) A (isTrue ct (compEnvC scope cl C env) (eval ct (compEnvC scope cl C env))) (fun ok s' => ok = p n ∧ ∃ tk', s' = { s with heap := h, toks := tk' }) E' { s with heap := h, toks := tk })
    (elem : ∀ (n : Int) (t : Tok) I oI C oC D m₂ ys h tk (E' : Value → Shared → Prop), n ∈ ns → LCg.NsObj oC m₂ → m₂ x = some (.int n t) → Fr h₀ L h m → News h₀ L h ((I, oI) :: (C, oC) :: (D, LCg.lst ys) :: news) →
      wpAny (model prog w) A (eval elt (compEnvC scope cl C env)) (fun y s' => (∃ t', y = .int n t') ∧ ∃ tk', s' = { s with heap := h, toks := tk' }) E' { s with heap := h, toks := tk })
    (fin : ∀ ys, IntsAre ys (ns.filter p) → Fin ys news) : LCt.CompRestT prog w A h₀ L m env ct elt x scope cl s S (fun i v => its[i]? = some v) Fin its.size 0 [] news := by
  have hsz : its.size = ns.length := by rw [← hi.length]; simp
  have key : ∀ (j i : Nat) (ys : List Value), i + j = ns.length → IntsAre ys ((ns.take i).filter p) → LCt.CompRestT prog w A h₀ L m env ct elt x scope cl s S (fun i v => its[i]? = some v) Fin j i ys news := by
    intro j
    induction j with
    | zero =>
      intro i ys hij hy
      have e : i = ns.length := by omega
      subst e
      rw [List.take_length] at hy
      exact LCt.CompRestT.zero (fin ys hy)
    | succ j ih =>
      intro i ys hij hy
      refine LCt.CompRestT.succ ?_
      intro v I oI C oC D m₂ h tk E' hv hC hx F N off ne
      obtain ⟨n, t, rfl, hn⟩ := IntsAre.at hi i v (by rw [Array.getElem?_toList]; exact hv)
      have hmem := List.mem_of_getElem? hn
      refine wpAny_mono (test n t I oI C oC D m₂ ys h tk E' hmem hC hx F N) (fun ok s' hq => ?_) fun _ _ e => e
      obtain ⟨rfl, tk', rfl⟩ := hq
      cases hp : p n with
      | true =>
        rw [if_pos rfl]
        refine wpAny_mono (elem n t I oI C oC D m₂ ys h tk' E' hmem hC hx F N) (fun y s₂ hq => ?_) fun _ _ e => e
        obtain ⟨⟨t', rfl⟩, tk'', rfl⟩ := hq
        refine ⟨h, tk'', news, rfl, F, N, off, hS, ih (i + 1) _ (by omega) ?_⟩
        rw [List.take_add_one, hn, List.filter_append]
        have e1 : List.filter p (some n).toList = [n] := by simp [hp]
        rw [e1]
        exact ints_snoc hy
      | false =>
        rw [if_neg Bool.false_ne_true]
        refine ⟨h, tk', news, rfl, F, N, off, hS, ih (i + 1) _ (by omega) ?_⟩
        rw [List.take_add_one, hn, List.filter_append]
        have e1 : List.filter p (some n).toList = [] := by simp [hp]
        rw [e1, List.append_nil]
        exact hy
  rw [hsz]
  exact key ns.length 0 [] (by omega) .nil

theorem slice_from {value slice : PySem.Expr} {l : Addr} {rn i : Nat} {rv : List Value} {run : List Int} {tt : Tok} {Q : Value → Shared → Prop} (F : Fr h₀ L s.heap m) (N : News h₀ L s.heap news) (hm : (l, W.listOf rv.toArray rn) ∈ news) (hi : IntsAre rv run) (hl : run.length ≤ 100)
    (h : ∀ D ws h', Fr h₀ L h' m → News h₀ L h' ((D, W.listOf (List.toArray ws) 0) :: news) → (∀ p ∈ news, p.1 < D) → IntsAre ws (run.drop (i + 1)) → Q (.ref D) { s with heap := h' })
    (hs : subscripted slice false (.ref l) (.ref s.heap.objs.size) = operate [.ref s.heap.objs.size, .ref l] (getItem (.ref l) (.ref s.heap.objs.size)) := by with_unfolding_all rfl) (ht : ∀ r, letTemporaryGo value (.ref l) r = pure () := by intro _; with_unfolding_all rfl) :
    wpAny (model prog w) A (subscriptTail value slice (.ref l) (.ref s.heap.objs.size)) Q E { s with heap := s.heap.push { cls := .type "slice", data := .fields #[.int ((i : Int) + 1) tt, .none, .none] } } := by
  have e : ((i : Int) + 1).toNat = i + 1 := by omega
  have hk := kmk_from (x := (i : Int) + 1) hi (by omega)
  rw [e] at hk
  refine kmk_slice_ints (lo := some ((i : Int) + 1)) (hi := none) F N ⟨_, (N _ hm).1, rfl, _, rfl⟩ (by constructor) (by constructor) hi hk rfl (fun D ws h' F' N' l1 hI _ _ => h D ws h' F' N' l1 hI) hs ht ?_
  rw [List.size_toArray, hi.length, sizeLine_eq]
  omega

theorem len_my {D : Addr} {ys : List Value} {ns : List Int} {c : Nat} {Q : Value → Shared → Prop} (N : News h₀ L s.heap ((D, LCg.lst ys) :: news)) (hi : IntsAre ys ns) (hc : ns.length = c) (hz : c ≤ 1000) (h : ∀ t k, Q (.int (c : Int) t) { s with toks := k }) :
    wpAny (model prog w) A (call (.builtin "len") [.ref D]) Q E s := by
  have e : ys.toArray.size = c := by rw [List.size_toArray, hi.length, hc]
  refine call_len_list (items := ys.toArray) ⟨_, (N _ (List.mem_cons_self ..)).1, rfl, _, rfl⟩ (by rw [e]; omega) ?_
  rw [e]
  exact h _ _
end
end Mine
end

-- Plain2
section
open PySem PySem.W PyProof.Rows
set_option Elab.async false
set_option linter.unusedSimpArgs false
set_option linter.unusedVariables false
namespace Mine
namespace PL

/-- a mark on its way: dots ahead, what is spelled, what is bare -/
structure Item where
  n : Nat
  sp : List Nat
  lf : List Nat

def Item.text (i : Item) : List Nat := List.replicate i.n 46 ++ (i.sp ++ i.lf)
def textOf (is : List Item) : List Nat := is.flatMap Item.text

theorem text_cons (i : Item) (r : List Item) : textOf (i :: r) = List.replicate i.n 46 ++ (i.sp ++ (i.lf ++ textOf r)) := by
  unfold textOf
  rw [List.flatMap_cons]
  unfold Item.text
  simp only [List.append_assoc]
def TB (d : Int) : Tab := [tab0, tab1, tab2, tab3, tab4].getD d.toNat []
def isEol (l : List Nat) : Bool := l == [13] || l == [10] || l == [13, 10]
def isRow (l : List Nat) : Bool := l == [10] || l == [13, 10]
def inc (d : Int) (prev : List Nat) : Nat := if d = 5 ∧ isEol prev = true then 1 else if d = 7 ∧ isRow prev = true then 1 else 0
def nextSp (d : Int) (sp lf : List Nat) : List Nat := if d < 5 then sp.flatMap (tab (TB d)) ++ lf.flatMap (spellC 0 (NT d)) else sp
def nextLf (d : Int) (lf : List Nat) : List Nat := if d < 5 then lf.flatMap (stayC (NT d)) else leftF d lf
def stepI (d : Int) (prev : List Nat) (i : Item) : Item := ⟨i.n + (if 46 ∈ i.lf then inc d prev else 0), nextSp d i.sp i.lf, nextLf d i.lf⟩
def stepAll (d : Int) : List Nat → List Item → List Item
  | _, [] => []
  | p, i :: r => stepI d p i :: stepAll d i.lf r

def signs : List Nat := [38, 97, 109, 112, 59, 108, 116, 103, 113, 117, 111, 35, 49, 51, 48, 57, 120, 68, 65]

/-- the shapes of what is bare -/
def Shape (l : List Nat) : Prop := l = [] ∨ (∃ c, l = [c]) ∨ l = [13, 10]

structure Ok (i : Item) : Prop where
  sp : ∀ c ∈ i.sp, c ∈ signs
  spend : i.sp = [] ∨ ∃ y, i.sp = y ++ [59]
  lf : Shape i.lf
  ne : i.sp ≠ [] ∨ i.lf ≠ []
  dot : 46 ∈ i.lf → i.sp = []
  n : 46 ∉ i.lf → i.n = 0

def Good : List Item → Prop
  | [] => True
  | i :: r => Ok i ∧ (∀ j, r.head? = some j → i.lf = [13] → j.lf ≠ [10]) ∧ Good r

theorem five {d : Int} (h0 : 0 ≤ d) (h5 : d < 5) : d = 0 ∨ d = 1 ∨ d = 2 ∨ d = 3 ∨ d = 4 := by omega

theorem TB_NT {d : Int} (h0 : 0 ≤ d) (h5 : d < 5) : TB d = (NT d).map fun p => (p.1, 38 :: p.2) := by
  rcases five h0 h5 with rfl | rfl | rfl | rfl | rfl <;> rfl

theorem lookup_map (T : Tab) (c : Nat) : (T.map fun p => (p.1, 38 :: p.2)).lookup c = (T.lookup c).map fun z => 38 :: z := by
  induction T with
  | nil => rfl
  | cons p r ih =>
    obtain ⟨a, z⟩ := p
    rw [List.map_cons, List.lookup_cons, List.lookup_cons, ih]
    cases (c == a) <;> rfl

theorem tab_split {d : Int} (h0 : 0 ≤ d) (h5 : d < 5) (c : Nat) : tab (TB d) c = spellC 0 (NT d) c ++ stayC (NT d) c := by
  unfold tab spellC stayC
  rw [TB_NT h0 h5, lookup_map]
  cases (NT d).lookup c <;> simp

theorem tab_lf {d : Int} (h0 : 0 ≤ d) (h5 : d < 5) {lf : List Nat} (h : Shape lf) : lf.flatMap (tab (TB d)) = lf.flatMap (spellC 0 (NT d)) ++ lf.flatMap (stayC (NT d)) := by
  rcases h with rfl | ⟨c, rfl⟩ | rfl
  · rfl
  · simp [tab_split h0 h5]
  · rcases five h0 h5 with rfl | rfl | rfl | rfl | rfl <;> rfl

def ampd (c : Nat) : List Nat := if c = 38 then amp else [c]
theorem tab_sign {d : Int} (h0 : 0 ≤ d) (h5 : d < 5) : ∀ c ∈ signs, tab (TB d) c = ampd c := by
  rcases five h0 h5 with rfl | rfl | rfl | rfl | rfl <;> decide +kernel
theorem tab_dot {d : Int} (h0 : 0 ≤ d) (h5 : d < 5) : tab (TB d) 46 = [46] := by
  rcases five h0 h5 with rfl | rfl | rfl | rfl | rfl <;> rfl
theorem flat_congr {f g : Nat → List Nat} {l : List Nat} (h : ∀ c ∈ l, f c = g c) : l.flatMap f = l.flatMap g := by
  induction l with
  | nil => rfl
  | cons c r ih => rw [List.flatMap_cons, List.flatMap_cons, h c (List.mem_cons_self ..), ih fun x hx => h x (List.mem_cons_of_mem _ hx)]
theorem flat_self {f : Nat → List Nat} {l : List Nat} (h : ∀ c ∈ l, f c = [c]) : l.flatMap f = l := by
  induction l with
  | nil => rfl
  | cons c r ih => rw [List.flatMap_cons, h c (List.mem_cons_self ..), ih fun x hx => h x (List.mem_cons_of_mem _ hx)]; rfl

theorem esc_item {d : Int} (h0 : 0 ≤ d) (h5 : d < 5) {i : Item} (ok : Ok i) (p : List Nat) : i.text.flatMap (tab (TB d)) = (stepI d p i).text := by
  unfold Item.text stepI nextSp nextLf
  have hi : inc d p = 0 := by unfold inc; rw [if_neg (by omega), if_neg (by omega)]
  simp only [hi, ite_self, Nat.add_zero, if_pos h5, List.flatMap_append]
  rw [flat_self (l := List.replicate i.n 46) (fun c hc => by rw [List.eq_of_mem_replicate hc]; exact tab_dot h0 h5), tab_lf h0 h5 ok.lf]
  simp only [List.append_assoc]

theorem esc_all {d : Int} (h0 : 0 ≤ d) (h5 : d < 5) : ∀ (is : List Item) (p : List Nat), Good is → (textOf is).flatMap (tab (TB d)) = textOf (stepAll d p is)
  | [], _, _ => rfl
  | i :: r, p, g => by
    have ih := esc_all h0 h5 r i.lf g.2.2
    unfold textOf at *
    rw [stepAll, List.flatMap_cons, List.flatMap_cons, List.flatMap_append, esc_item h0 h5 g.1 p, ih]

/- line ends -/
theorem fix_cons {c : Nat} (h1 : c ≠ 13) (h2 : c ≠ 10) (r : List Nat) : R.fixE (c :: r) = c :: R.fixE r := by
  rw [R.fixE]
  · rw [if_neg (by omega)]
  · intro r' hc; omega
theorem fix_app {a : List Nat} (h : ∀ c ∈ a, c ≠ 13 ∧ c ≠ 10) (r : List Nat) : R.fixE (a ++ r) = a ++ R.fixE r := by
  induction a with
  | nil => rfl
  | cons c a ih =>
    have := h c (List.mem_cons_self ..)
    rw [List.cons_append, fix_cons this.1 this.2, ih fun x hx => h x (List.mem_cons_of_mem _ hx)]; rfl
theorem fix_10 (r : List Nat) : R.fixE (10 :: r) = 13 :: 10 :: R.fixE r := by
  rw [R.fixE]
  · rw [if_pos (by omega)]
  · intro r' hc; simp at hc
theorem fix_13 {r : List Nat} (h : r.head? ≠ some 10) : R.fixE (13 :: r) = 13 :: 10 :: R.fixE r := by
  cases r with
  | nil => rfl
  | cons c r =>
    rw [R.fixE]
    · rw [if_pos (by omega)]
    · intro r' hc hr
      injection hr with e1 e2
      subst e1
      exact h rfl
theorem fix_lf {lf r : List Nat} (h : Shape lf) (hr : lf = [13] → r.head? ≠ some 10) : R.fixE (lf ++ r) = leftF 6 lf ++ R.fixE r := by
  rcases h with rfl | ⟨c, rfl⟩ | rfl
  · rfl
  · unfold leftF
    by_cases h1 : c = 13
    · subst h1
      rw [if_pos (by simp)]
      exact fix_13 (hr rfl)
    · by_cases h2 : c = 10
      · subst h2
        rw [if_pos (by simp)]
        exact fix_10 r
      · rw [if_neg (by simp; omega)]
        exact fix_cons h1 h2 r
  · unfold leftF
    rw [if_neg (by simp)]
    show R.fixE (13 :: 10 :: r) = _
    rw [R.fixE]; rfl
theorem sign_ne {c : Nat} (h : c ∈ signs) : c ≠ 13 ∧ c ≠ 10 ∧ c ≠ 46 := by
  have key : ∀ c ∈ signs, c ≠ 13 ∧ c ≠ 10 ∧ c ≠ 46 := by decide
  exact key c h
theorem head_text {is : List Item} (g : Good is) (h : (textOf is).head? = some 10) : ∃ j, is.head? = some j ∧ j.lf = [10] := by
  cases is with
  | nil => cases h
  | cons i r =>
    refine ⟨i, rfl, ?_⟩
    have ok := g.1
    unfold textOf at h
    rw [List.flatMap_cons] at h
    unfold Item.text at h
    cases hn : i.n with
    | succ n => rw [hn, List.replicate_succ] at h; simp at h
    | zero =>
      rw [hn, List.replicate_zero, List.nil_append] at h
      cases hs : i.sp with
      | cons c y =>
        rw [hs] at h
        have := sign_ne (ok.sp c (by rw [hs]; exact List.mem_cons_self ..))
        simp at h
        omega
      | nil =>
        rw [hs, List.nil_append] at h
        rcases ok.lf with e | ⟨c, e⟩ | e
        · rcases ok.ne with q | q
          · exact absurd hs q
          · exact absurd e q
        · rw [e] at h ⊢
          simp at h
          rw [h]
        · rw [e] at h
          simp at h
theorem fix_all : ∀ (is : List Item) (p : List Nat), Good is → R.fixE (textOf is) = textOf (stepAll 6 p is)
  | [], _, _ => rfl
  | i :: r, p, g => by
    have ih := fix_all r i.lf g.2.2
    have hi : inc 6 p = 0 := by unfold inc; rw [if_neg (by omega), if_neg (by omega)]
    rw [stepAll, text_cons, text_cons]
    unfold stepI nextSp nextLf
    simp only [hi, ite_self, Nat.add_zero, if_neg (show ¬ (6 : Int) < 5 by decide)]
    rw [fix_app (fun c hc => by rw [List.eq_of_mem_replicate hc]; decide), fix_app (fun c hc => ⟨(sign_ne (g.1.sp c hc)).1, (sign_ne (g.1.sp c hc)).2.1⟩), fix_lf g.1.lf, ← ih]
    · intro he hh
      obtain ⟨j, hj, hj2⟩ := head_text g.2.2 hh
      exact g.2.1 j hj he hj2

/- dots -/
theorem dots_free {a : List Nat} (h : ∀ c ∈ a, c ≠ 46) (b : Bool) (r : List Nat) : R.dots b (a ++ r) = a ++ R.dots (match a.getLast? with | some c => c == 10 | none => b) r := by
  induction a generalizing b with
  | nil => rfl
  | cons c a ih =>
    have hc := h c (List.mem_cons_self ..)
    rw [List.cons_append, R.dots, if_neg (by simp [hc]), ih (fun x hx => h x (List.mem_cons_of_mem _ hx)), List.cons_append]
    congr 2
    cases a with
    | nil => rfl
    | cons e a =>
      rw [List.getLast?_cons_cons]
      cases hq : (e :: a).getLast? with
      | none => simp at hq
      | some x => rfl
theorem dots_rep (n : Nat) (r : List Nat) : R.dots false (List.replicate n 46 ++ r) = List.replicate n 46 ++ R.dots false r := by
  induction n with
  | zero => rfl
  | succ n ih => rw [List.replicate_succ, List.cons_append, R.dots, if_neg (by simp), show ((46 : Nat) == 10) = false from rfl, ih]; rfl
theorem rep_mid (n : Nat) (r : List Nat) : List.replicate n 46 ++ 46 :: r = 46 :: (List.replicate n 46 ++ r) := by
  induction n with
  | zero => rfl
  | succ n ih => rw [List.replicate_succ, List.cons_append, ih]; rfl
theorem dots_dot (b : Bool) (n : Nat) (r : List Nat) : R.dots b (List.replicate n 46 ++ 46 :: r) = List.replicate (n + if b = true then 1 else 0) 46 ++ 46 :: R.dots false r := by
  rw [rep_mid, R.dots]
  cases b with
  | true => rw [if_pos (by simp), dots_rep, if_pos rfl, List.replicate_succ, List.cons_append, rep_mid]
  | false => rw [if_neg (by simp), show ((46 : Nat) == 10) = false from rfl, dots_rep, if_neg (by simp), Nat.add_zero, rep_mid]
theorem last_row {i : Item} (ok : Ok i) (hd : 46 ∉ i.lf) (b : Bool) : (match (i.sp ++ i.lf).getLast? with | some c => c == 10 | none => b) = isRow i.lf := by
  rcases ok.lf with e | ⟨c, e⟩ | e
  · rcases ok.spend with q | ⟨y, q⟩
    · rcases ok.ne with x | x
      · exact absurd q x
      · exact absurd e x
    · rw [e, q, List.append_nil, List.getLast?_concat]; rfl
  · rw [e, List.getLast?_concat]
    unfold isRow
    show (c == 10) = (([c] : List Nat) == [10] || ([c] : List Nat) == [13, 10])
    have e1 : (([c] : List Nat) == [10]) = (c == 10) := by simp [BEq.beq, List.beq]
    have e2 : (([c] : List Nat) == [13, 10]) = false := by simp [BEq.beq, List.beq]
    rw [e1, e2, Bool.or_false]
  · rw [e, show ([13, 10] : List Nat) = [13] ++ [10] from rfl, ← List.append_assoc, List.getLast?_concat]; rfl
theorem nolf {lf : List Nat} (h : Shape lf) (hd : 46 ∈ lf) : lf = [46] := by
  rcases h with rfl | ⟨c, rfl⟩ | rfl
  · cases hd
  · rw [List.mem_singleton.mp hd]
  · simp at hd
theorem left7 (lf : List Nat) : leftF 7 lf = lf := by unfold leftF; rw [if_neg (by omega)]
theorem left8 (lf : List Nat) : leftF 8 lf = lf := by unfold leftF; rw [if_neg (by omega)]
theorem left56 (lf : List Nat) : leftF 5 lf = leftF 6 lf := by unfold leftF; simp
theorem dots_all : ∀ (is : List Item) (p : List Nat), Good is → R.dots (isRow p) (textOf is) = textOf (stepAll 7 p is)
  | [], _, _ => rfl
  | i :: r, p, g => by
    have ih := dots_all r i.lf g.2.2
    have hi : inc 7 p = if isRow p = true then 1 else 0 := by unfold inc; rw [if_neg (by omega)]; simp
    rw [stepAll, text_cons, text_cons]
    unfold stepI nextSp nextLf
    simp only [hi, if_neg (show ¬ (7 : Int) < 5 by decide), left7]
    by_cases hd : 46 ∈ i.lf
    · have e := nolf g.1.lf hd
      rw [e] at ih
      rw [if_pos hd, g.1.dot hd, List.nil_append, List.nil_append, e, List.singleton_append, List.singleton_append, dots_dot, ← ih]
      rfl
    · rw [if_neg hd, g.1.n hd, Nat.add_zero, List.replicate_zero, List.nil_append, List.nil_append]
      rw [← List.append_assoc, dots_free (fun c hc => ?_), last_row g.1 hd, ih, List.append_assoc]
      · rcases List.mem_append.mp hc with q | q
        · exact (sign_ne (g.1.sp c q)).2.2
        · exact fun e => hd (e ▸ q)
theorem isRow_left (p : List Nat) : isRow (leftF 6 p) = isEol p := by
  unfold leftF isRow isEol
  by_cases h : p = [13] ∨ p = [10]
  · rw [if_pos ⟨Or.inr rfl, h⟩]
    rcases h with rfl | rfl <;> rfl
  · rw [if_neg fun q => h q.2]
    have h1 : (p == [13]) = false := by simpa using fun e => h (Or.inl e)
    rw [h1, Bool.false_or]
theorem mem_left {lf : List Nat} : 46 ∈ leftF 6 lf ↔ 46 ∈ lf := by
  unfold leftF
  split
  · rename_i h
    rcases h.2 with rfl | rfl <;> simp
  · rfl
theorem step5 : ∀ (is : List Item) (p : List Nat), stepAll 5 p is = stepAll 7 (leftF 6 p) (stepAll 6 p is)
  | [], _ => rfl
  | i :: r, p => by
    rw [stepAll, stepAll, stepAll, step5 r i.lf]
    congr 1
    unfold stepI nextSp nextLf
    have h5 : inc 5 p = if isEol p = true then 1 else 0 := by unfold inc; simp
    have h6 : inc 6 p = 0 := by unfold inc; rw [if_neg (by omega), if_neg (by omega)]
    have h7 : inc 7 (leftF 6 p) = if isEol p = true then 1 else 0 := by unfold inc; rw [if_neg (by omega), isRow_left]; simp
    simp only [h5, h6, h7, ite_self, Nat.add_zero, if_neg (show ¬ (7 : Int) < 5 by decide), if_neg (show ¬ (6 : Int) < 5 by decide), if_neg (show ¬ (5 : Int) < 5 by decide), left7, left56, mem_left]
theorem step8 : ∀ (is : List Item) (p : List Nat), stepAll 8 p is = is
  | [], _ => rfl
  | i :: r, p => by
    rw [stepAll, step8 r i.lf]
    unfold stepI nextSp nextLf
    have h8 : inc 8 p = 0 := by unfold inc; rw [if_neg (by omega), if_neg (by omega)]
    simp only [h8, ite_self, Nat.add_zero, if_neg (show ¬ (8 : Int) < 5 by decide), left8]

/- the items stay good -/
theorem NT_sign {d : Int} (h0 : 0 ≤ d) (h5 : d < 5) : ∀ p ∈ NT d, (∀ c ∈ p.2, c ∈ signs) ∧ p.2.getLast? = some 59 ∧ p.1 ≠ 46 := by
  rcases five h0 h5 with rfl | rfl | rfl | rfl | rfl <;> decide +kernel
theorem look46 {d : Int} (h0 : 0 ≤ d) (h5 : d < 5) : (NT d).lookup 46 = none := by
  rcases five h0 h5 with rfl | rfl | rfl | rfl | rfl <;> rfl
theorem spell_ok {d : Int} (h0 : 0 ≤ d) (h5 : d < 5) (c : Nat) : (∀ x ∈ spellC 0 (NT d) c, x ∈ signs) ∧ (spellC 0 (NT d) c = [] ∨ ∃ y, spellC 0 (NT d) c = y ++ [59]) := by
  unfold spellC
  cases h : (NT d).lookup c with
  | none => exact ⟨fun x hx => (by cases hx), Or.inl rfl⟩
  | some z =>
    obtain ⟨h1, h2, h3⟩ := NT_sign h0 h5 _ (look_mem h)
    refine ⟨fun x hx => ?_, Or.inr ?_⟩
    · simp only [List.replicate_zero, List.flatten_nil, List.nil_append] at hx
      rcases List.mem_cons.mp hx with rfl | hx
      · decide
      · exact h1 x hx
    · obtain ⟨y, hy⟩ := List.getLast?_eq_some_iff.mp h2
      refine ⟨38 :: y, ?_⟩
      simp only [List.replicate_zero, List.flatten_nil, List.nil_append]
      have hy' : z = y ++ [59] := hy
      rw [hy']; rfl
theorem amp_ok {l : List Nat} (h : ∀ c ∈ l, c ∈ signs) : ∀ c ∈ l.flatMap ampd, c ∈ signs := by
  intro c hc
  obtain ⟨x, hx, hc⟩ := List.mem_flatMap.mp hc
  unfold ampd at hc
  split at hc
  · have key : ∀ c ∈ amp, c ∈ signs := by decide
    exact key c hc
  · rw [List.mem_singleton.mp hc]; exact h x hx
theorem end_app {a b : List Nat} (ha : a = [] ∨ ∃ y, a = y ++ [59]) (hb : b = [] ∨ ∃ y, b = y ++ [59]) : a ++ b = [] ∨ ∃ y, a ++ b = y ++ [59] := by
  rcases hb with rfl | ⟨y, rfl⟩
  · rw [List.append_nil]; exact ha
  · exact Or.inr ⟨a ++ y, by rw [List.append_assoc]⟩
theorem flat_sp {d : Int} (h0 : 0 ≤ d) (h5 : d < 5) (l : List Nat) : (∀ x ∈ l.flatMap (spellC 0 (NT d)), x ∈ signs) ∧ (l.flatMap (spellC 0 (NT d)) = [] ∨ ∃ y, l.flatMap (spellC 0 (NT d)) = y ++ [59]) := by
  induction l with
  | nil => exact ⟨fun x hx => (by cases hx), Or.inl rfl⟩
  | cons c r ih =>
    obtain ⟨a1, a2⟩ := spell_ok h0 h5 c
    rw [List.flatMap_cons]
    exact ⟨fun x hx => (List.mem_append.mp hx).elim (a1 x) (ih.1 x), end_app a2 ih.2⟩
theorem stay_shape {d : Int} (h0 : 0 ≤ d) (h5 : d < 5) {lf : List Nat} (h : Shape lf) : Shape (lf.flatMap (stayC (NT d))) := by
  rcases h with rfl | ⟨c, rfl⟩ | rfl
  · exact Or.inl rfl
  · simp only [List.flatMap_cons, List.flatMap_nil, List.append_nil]
    unfold stayC
    split
    · exact Or.inl rfl
    · exact Or.inr (Or.inl ⟨c, rfl⟩)
  · rcases five h0 h5 with rfl | rfl | rfl | rfl | rfl
    · exact Or.inr (Or.inr rfl)
    · exact Or.inl rfl
    · exact Or.inr (Or.inr rfl)
    · exact Or.inr (Or.inl ⟨10, rfl⟩)
    · exact Or.inl rfl
theorem left_shape {d : Int} {lf : List Nat} (h : Shape lf) : Shape (leftF d lf) := by
  unfold leftF
  split
  · exact Or.inr (Or.inr rfl)
  · exact h
theorem next_shape {d : Int} (h0 : 0 ≤ d) {lf : List Nat} (h : Shape lf) : Shape (nextLf d lf) := by
  unfold nextLf
  split
  · exact stay_shape h0 (by assumption) h
  · exact left_shape h
theorem mem_next {d : Int} (h0 : 0 ≤ d) {lf : List Nat} : 46 ∈ nextLf d lf ↔ 46 ∈ lf := by
  unfold nextLf
  split
  · rename_i h5
    rw [List.mem_flatMap]
    constructor
    · rintro ⟨c, hc, h⟩
      unfold stayC at h
      split at h
      · cases h
      · rw [List.mem_singleton.mp h]; exact hc
    · intro h
      refine ⟨46, h, ?_⟩
      unfold stayC
      rw [look46 h0 h5]
      simp
  · unfold leftF
    split
    · rename_i h
      rcases h.2 with rfl | rfl <;> simp
    · rfl
theorem next_ok {d : Int} (h0 : 0 ≤ d) {i : Item} (ok : Ok i) (p : List Nat) : Ok (stepI d p i) := by
  have hm := mem_next h0 (lf := i.lf)
  by_cases h5 : d < 5
  · have hsp : nextSp d i.sp i.lf = i.sp.flatMap ampd ++ i.lf.flatMap (spellC 0 (NT d)) := by
      unfold nextSp
      rw [if_pos h5, flat_congr fun c hc => tab_sign h0 h5 c (ok.sp c hc)]
    have hend : i.sp.flatMap ampd = [] ∨ ∃ y, i.sp.flatMap ampd = y ++ [59] := by
      rcases ok.spend with e | ⟨y, e⟩
      · rw [e]; exact Or.inl rfl
      · rw [e, List.flatMap_append]; exact Or.inr ⟨_, rfl⟩
    refine ⟨?_, ?_, next_shape h0 ok.lf, ?_, ?_, ?_⟩
    · show ∀ c ∈ nextSp d i.sp i.lf, c ∈ signs
      rw [hsp]
      intro c hc
      rcases List.mem_append.mp hc with q | q
      · exact amp_ok ok.sp c q
      · exact (flat_sp h0 h5 i.lf).1 c q
    · show nextSp d i.sp i.lf = [] ∨ ∃ y, nextSp d i.sp i.lf = y ++ [59]
      rw [hsp]
      exact end_app hend (flat_sp h0 h5 i.lf).2
    · show nextSp d i.sp i.lf ≠ [] ∨ nextLf d i.lf ≠ []
      rw [hsp]
      unfold nextLf
      rw [if_pos h5]
      cases hs : i.sp with
      | cons c y =>
        left
        rw [List.flatMap_cons]
        unfold ampd
        split <;> simp [amp]
      | nil =>
        have hl : i.lf ≠ [] := ok.ne.resolve_left (by rw [hs]; exact fun q => q rfl)
        cases hl2 : i.lf with
        | nil => exact absurd hl2 hl
        | cons c y =>
          rw [List.flatMap_nil, List.nil_append, List.flatMap_cons, List.flatMap_cons]
          unfold spellC stayC
          cases (NT d).lookup c with
          | none => right; simp
          | some z => left; simp
    · intro h
      have h' := hm.mp h
      show nextSp d i.sp i.lf = []
      rw [hsp, ok.dot h', nolf ok.lf h']
      simp [spellC, look46 h0 h5]
    · intro h
      have h' : 46 ∉ i.lf := fun q => h (hm.mpr q)
      show i.n + _ = 0
      rw [if_neg h', ok.n h']
  · have hsp : nextSp d i.sp i.lf = i.sp := by unfold nextSp; rw [if_neg h5]
    refine ⟨?_, ?_, next_shape h0 ok.lf, ?_, ?_, ?_⟩
    · show ∀ c ∈ nextSp d i.sp i.lf, c ∈ signs
      rw [hsp]; exact ok.sp
    · show nextSp d i.sp i.lf = [] ∨ ∃ y, nextSp d i.sp i.lf = y ++ [59]
      rw [hsp]; exact ok.spend
    · show nextSp d i.sp i.lf ≠ [] ∨ nextLf d i.lf ≠ []
      rw [hsp]
      refine ok.ne.imp id fun h => ?_
      unfold nextLf leftF
      rw [if_neg h5]
      split
      · simp
      · exact h
    · intro h
      show nextSp d i.sp i.lf = []
      rw [hsp]
      exact ok.dot (hm.mp h)
    · intro h
      have h' : 46 ∉ i.lf := fun q => h (hm.mpr q)
      show i.n + _ = 0
      rw [if_neg h', ok.n h']
theorem next_13 {d : Int} (h0 : 0 ≤ d) {lf : List Nat} (h : Shape lf) (e : nextLf d lf = [13]) : lf = [13] ∧ (d = 0 ∨ d = 2 ∨ 7 ≤ d) := by
  unfold nextLf at e
  split at e
  · rename_i h5
    rcases h with rfl | ⟨c, rfl⟩ | rfl
    · cases e
    · simp only [List.flatMap_cons, List.flatMap_nil, List.append_nil] at e
      unfold stayC at e
      split at e
      · cases e
      · rename_i hl
        injection e with e1
        subst e1
        refine ⟨rfl, ?_⟩
        rcases five h0 h5 with rfl | rfl | rfl | rfl | rfl
        · exact Or.inl rfl
        · exact absurd rfl hl
        · exact Or.inr (Or.inl rfl)
        · exact absurd rfl hl
        · exact absurd rfl hl
    · rcases five h0 h5 with rfl | rfl | rfl | rfl | rfl <;> cases e
  · rename_i h5
    unfold leftF at e
    split at e
    · cases e
    · rename_i h6
      refine ⟨e, ?_⟩
      have : ¬ (d = 5 ∨ d = 6) := fun q => h6 ⟨q, Or.inl e⟩
      omega
theorem next_10 {d : Int} (hd : d = 0 ∨ d = 2 ∨ 7 ≤ d) {lf : List Nat} (h : Shape lf) (e : nextLf d lf = [10]) : lf = [10] := by
  unfold nextLf at e
  split at e
  · rename_i h5
    have hd' : d = 0 ∨ d = 2 := by omega
    rcases h with rfl | ⟨c, rfl⟩ | rfl
    · cases e
    · simp only [List.flatMap_cons, List.flatMap_nil, List.append_nil] at e
      unfold stayC at e
      split at e
      · cases e
      · exact e
    · rcases hd' with rfl | rfl <;> cases e
  · unfold leftF at e
    split at e
    · cases e
    · exact e
theorem stepAll_head (d : Int) (p : List Nat) (is : List Item) {j : Item} (h : (stepAll d p is).head? = some j) : ∃ i, is.head? = some i ∧ j.lf = nextLf d i.lf := by
  cases is with
  | nil => cases h
  | cons i r =>
    rw [stepAll] at h
    injection h with h
    exact ⟨i, rfl, h ▸ rfl⟩
theorem good_step {d : Int} (h0 : 0 ≤ d) : ∀ (is : List Item) (p : List Nat), Good is → Good (stepAll d p is)
  | [], _, _ => trivial
  | i :: r, p, g => by
    rw [stepAll]
    refine ⟨next_ok h0 g.1 p, fun j hj e => ?_, good_step h0 r i.lf g.2.2⟩
    obtain ⟨k, hk, ek⟩ := stepAll_head _ _ _ hj
    obtain ⟨e1, e2⟩ := next_13 h0 g.1.lf e
    rw [ek]
    intro q
    have ok : Ok k := by
      cases r with
      | nil => cases hk
      | cons x y => injection hk with hk; exact hk ▸ g.2.2.1
    exact g.2.1 k hk e1 (next_10 e2 ok.lf q)

/-- one hand upon the text -/
theorem done_step {d : Int} (h0 : 0 ≤ d) (h8 : d ≤ 8) {is : List Item} (g : Good is) : doneF d (textOf is) = textOf (stepAll d [13, 10] is) := by
  have h9 : d = 0 ∨ d = 1 ∨ d = 2 ∨ d = 3 ∨ d = 4 ∨ d = 5 ∨ d = 6 ∨ d = 7 ∨ d = 8 := by omega
  rcases h9 with rfl | rfl | rfl | rfl | rfl | rfl | rfl | rfl | rfl
  · exact esc_all (d := 0) (by decide) (by decide) is _ g
  · exact esc_all (d := 1) (by decide) (by decide) is _ g
  · exact esc_all (d := 2) (by decide) (by decide) is _ g
  · exact esc_all (d := 3) (by decide) (by decide) is _ g
  · exact esc_all (d := 4) (by decide) (by decide) is _ g
  · show R.dots true (R.fixE (textOf is)) = _
    rw [step5, fix_all is [13, 10] g]
    exact dots_all _ [13, 10] (good_step (by decide) is _ g)
  · exact fix_all is _ g
  · exact dots_all is [13, 10] g
  · rw [step8]; rfl
end PL
end Mine
end

-- Plain3
section
set_option Elab.async false
set_option linter.unusedSimpArgs false
set_option linter.unusedVariables false
namespace Mine

/-- _law_told's marks: one sign more -/
def markStep (ms : List (List Nat)) (c : Nat) : List (List Nat) := if c = 10 ∧ ms.getLast? = some [13] then ms.dropLast ++ [[13, 10]] else ms ++ [[c]]
def marksF (text : List Nat) : List (List Nat) := text.foldl markStep []
def cntN (run : List Int) (ahead : List (List Nat)) : Nat → Nat
  | 0 => 0
  | k + 1 => cntN run ahead k + PL.inc (run.getD k 0) (ahead.getD k [])
def oneTold (run : List Int) (ahead : List (List Nat)) (m : List Nat) : List Nat := (if m = [46] then List.replicate (cntN run ahead 6) 46 else []) ++ ((wayN run m 6).1 ++ (wayN run m 6).2.getD 6 [])
def toldS (run : List Int) (st : List Nat × List (List Nat)) (m : List Nat) : List Nat × List (List Nat) := (st.1 ++ oneTold run st.2 m, (wayN run m 6).2)
def front : List (List Nat) := List.replicate 6 [13, 10]
def toldF (run : List Int) (text : List Nat) : List Nat := ((marksF text).foldl (toldS run) ([], front)).1

namespace PL
def toldR (run : List Int) : List (List Nat) → List (List Nat) → List Nat
  | _, [] => []
  | ahead, m :: r => oneTold run ahead m ++ toldR run (wayN run m 6).2 r
theorem told_fold (run : List Int) : ∀ (ms : List (List Nat)) (st : List Nat × List (List Nat)), (ms.foldl (toldS run) st).1 = st.1 ++ toldR run st.2 ms
  | [], st => by simp [toldR]
  | m :: r, st => by
    rw [List.foldl_cons, told_fold run r, toldR]
    show st.1 ++ oneTold run st.2 m ++ _ = _
    rw [List.append_assoc]
    rfl

def marksR : List Nat → List (List Nat)
  | [] => []
  | 13 :: 10 :: r => [13, 10] :: marksR r
  | c :: r => [c] :: marksR r
theorem marks_fold : ∀ (n : Nat) (t : List Nat) (ms : List (List Nat)), t.length ≤ n → (ms.getLast? = some [13] → t.head? ≠ some 10) → t.foldl markStep ms = ms ++ marksR t
  | _, [], ms, _, _ => by simp [marksR]
  | 0, c :: t, ms, h, _ => by simp at h
  | n + 1, c :: t, ms, h, hm => by
    rw [List.foldl_cons]
    have e1 : markStep ms c = ms ++ [[c]] := by
      unfold markStep
      rw [if_neg]
      rintro ⟨rfl, h2⟩
      exact hm h2 rfl
    rw [e1]
    have hl : t.length ≤ n := by simpa using h
    by_cases hc : c = 13 ∧ t.head? = some 10
    · obtain ⟨rfl, ht⟩ := hc
      cases t with
      | nil => cases ht
      | cons d t =>
        injection ht with ht
        subst ht
        rw [List.foldl_cons]
        have e2 : markStep (ms ++ [[13]]) 10 = ms ++ [[13, 10]] := by
          unfold markStep
          rw [if_pos ⟨rfl, List.getLast?_concat⟩, List.dropLast_concat]
        rw [e2, marks_fold n t _ (by simp at hl; omega) (by rw [List.getLast?_concat]; intro q; simp at q), marksR]
        simp
    · rw [marks_fold n t _ hl (by
        rw [List.getLast?_concat]
        intro q ht
        injection q with q
        injection q with q
        exact hc ⟨q, ht⟩), marksR]
      · simp
      · intro r e1 e2
        subst e1 e2
        exact hc ⟨rfl, rfl⟩
theorem marksF_R (t : List Nat) : marksF t = marksR t := by
  unfold marksF
  rw [marks_fold t.length t [] (Nat.le_refl _) (by simp)]
  rfl

def bareN (run : List Int) (m : List Nat) (k : Nat) : List Nat := (wayN run m k).2.getD k []
def spN (run : List Int) (m : List Nat) : Nat → List Nat
  | 0 => []
  | k + 1 => nextSp (run.getD k 0) (spN run m k) (bareN run m k)
theorem bare_succ (run : List Int) (m : List Nat) (k : Nat) : bareN run m (k + 1) = nextLf (run.getD k 0) (bareN run m k) := by
  have hl := wayN_len run m k
  unfold bareN
  rw [wayN]
  show ((wayN run m k).2 ++ [(turnF run k (run.getD k 0) (wayN run m k).1 ((wayN run m k).2.getD k [])).2]).getD (k + 1) [] = _
  rw [List.getD_eq_getElem?_getD, List.getElem?_append_right (by omega), hl, Nat.sub_self]
  show (turnF run k (run.getD k 0) (wayN run m k).1 ((wayN run m k).2.getD k [])).2 = _
  unfold turnF nextLf
  split
  · unfold leftF
    rw [if_neg (by omega)]
  · rfl
theorem bare_keep (run : List Int) (m : List Nat) (k : Nat) : ∀ j, (wayN run m (k + j)).2.getD k [] = bareN run m k
  | 0 => rfl
  | j + 1 => by
    rw [← bare_keep run m k j, ← Nat.add_assoc, wayN]
    show ((wayN run m (k + j)).2 ++ [_]).getD k [] = _
    rw [List.getD_eq_getElem?_getD, List.getElem?_append_left (by rw [wayN_len]; omega), ← List.getD_eq_getElem?_getD]
theorem bare_at (run : List Int) (m : List Nat) {k j : Nat} (h : k ≤ j) : (wayN run m j).2.getD k [] = bareN run m k := by
  rw [← bare_keep run m k (j - k), Nat.add_sub_cancel' h]

def ampK : Nat → List Nat → List Nat
  | 0, l => l
  | n + 1, l => ampK n (l.flatMap ampd)
theorem ampK_app (n : Nat) : ∀ a b, ampK n (a ++ b) = ampK n a ++ ampK n b := by
  induction n with
  | zero => intro a b; rfl
  | succ n ih => intro a b; rw [ampK, List.flatMap_append, ih]; rfl
theorem ampK_nil (n : Nat) : ampK n [] = [] := by
  induction n with
  | zero => rfl
  | succ n ih => rw [ampK]; exact ih
theorem ampd_self {y : List Nat} (h : 38 ∉ y) : y.flatMap ampd = y := flat_self fun c hc => by
  unfold ampd
  rw [if_neg fun e : c = 38 => h (e ▸ hc)]
theorem ampK_38 : ∀ (n : Nat) {y : List Nat}, 38 ∉ y → ampK n (38 :: y) = 38 :: ((List.replicate n ampS).flatten ++ y)
  | 0, y, _ => rfl
  | n + 1, y, h => by
    have e : (38 :: y).flatMap ampd = 38 :: (ampS ++ y) := by
      rw [List.flatMap_cons, ampd_self h]; rfl
    have h2 : 38 ∉ ampS ++ y := fun q => (List.mem_append.mp q).elim (fun q => absurd q (by decide)) h
    have e2 : (List.replicate (n + 1) ampS).flatten = (List.replicate n ampS).flatten ++ ampS := by
      rw [List.replicate_succ', List.flatten_concat]
    rw [ampK, e, ampK_38 n h2, e2, List.append_assoc]
theorem NT_38 {d : Int} (h0 : 0 ≤ d) (h5 : d < 5) : ∀ p ∈ NT d, 38 ∉ p.2 := by
  rcases five h0 h5 with rfl | rfl | rfl | rfl | rfl <;> decide +kernel
theorem ampK_spell {d : Int} (h0 : 0 ≤ d) (h5 : d < 5) (n c : Nat) : ampK n (spellC 0 (NT d) c) = spellC n (NT d) c := by
  unfold spellC
  cases h : (NT d).lookup c with
  | none => exact ampK_nil n
  | some z =>
    have := NT_38 h0 h5 _ (look_mem h)
    simp only [List.replicate_zero, List.flatten_nil, List.nil_append]
    exact ampK_38 n this
theorem ampK_flat {d : Int} (h0 : 0 ≤ d) (h5 : d < 5) (n : Nat) (l : List Nat) : ampK n (l.flatMap (spellC 0 (NT d))) = l.flatMap (spellC n (NT d)) := by
  induction l with
  | nil => exact ampK_nil n
  | cons c r ih => rw [List.flatMap_cons, List.flatMap_cons, ampK_app, ih, ampK_spell h0 h5]
def lat (run : List Int) (k : Nat) : Nat := ((run.drop k).filter fun a => decide (a < 5)).length
theorem lat_next {run : List Int} {k : Nat} (h : k < run.length) : lat run k = lat run (k + 1) + if run.getD k 0 < 5 then 1 else 0 := by
  unfold lat
  rw [List.drop_eq_getElem_cons h, List.filter_cons]
  have e : run.getD k 0 = run[k] := by rw [List.getD_eq_getElem?_getD, List.getElem?_eq_getElem h]; rfl
  rw [e]
  by_cases h5 : run[k] < 5
  · rw [if_pos h5, if_pos (by simpa using h5), List.length_cons]
  · rw [if_neg h5, if_neg (by simpa using h5)]; rfl

variable {run : List Int}
theorem sp_ok (hr : ∀ r ∈ run, 0 ≤ r ∧ r ≤ 8) (m : List Nat) : ∀ k, ∀ c ∈ spN run m k, c ∈ signs
  | 0 => fun c h => by cases h
  | k + 1 => by
    have ih := sp_ok hr m k
    have h0 : 0 ≤ run.getD k 0 := by
      rw [List.getD_eq_getElem?_getD]
      cases h : run[k]? with
      | none => simp
      | some r => exact (hr r (List.mem_of_getElem? h)).1
    intro c hc
    rw [spN] at hc
    unfold nextSp at hc
    split at hc
    · rename_i h5
      rw [flat_congr fun c hc => tab_sign h0 h5 c (ih c hc)] at hc
      rcases List.mem_append.mp hc with q | q
      · exact amp_ok ih c q
      · exact (flat_sp h0 h5 _).1 c q
    · exact ih c hc
theorem way_sp (hl : run.length = 6) (hr : ∀ r ∈ run, 0 ≤ r ∧ r ≤ 8) (m : List Nat) : ∀ k, k ≤ 6 → (wayN run m k).1 = ampK (lat run k) (spN run m k)
  | 0, _ => (ampK_nil _).symm
  | k + 1, hk => by
    have ih := way_sp hl hr m k (by omega)
    have h0 : 0 ≤ run.getD k 0 := by
      rw [List.getD_eq_getElem?_getD]
      cases h : run[k]? with
      | none => simp
      | some r => exact (hr r (List.mem_of_getElem? h)).1
    rw [wayN]
    show (turnF run k (run.getD k 0) (wayN run m k).1 (bareN run m k)).1 = _
    rw [ih, lat_next (by omega), spN]
    unfold turnF nextSp
    by_cases h5 : run.getD k 0 < 5
    · simp only [if_pos h5]
      rw [ampK_app, flat_congr fun c hc => tab_sign h0 h5 c (sp_ok hr m k c hc), ampK_flat h0 h5]
      unfold leftF
      rw [if_neg (by omega)]
      rfl
    · simp only [if_neg h5, Nat.add_zero]

def cntF (run : List Int) (pb : Nat → List Nat) : Nat → Nat
  | 0 => 0
  | k + 1 => cntF run pb k + inc (run.getD k 0) (pb k)
def itemsN (run : List Int) (k : Nat) : (Nat → List Nat) → List (List Nat) → List Item
  | _, [] => []
  | pb, m :: r => ⟨if m = [46] then cntF run pb k else 0, spN run m k, bareN run m k⟩ :: itemsN run k (bareN run m) r

theorem getD_ok (hr : ∀ r ∈ run, 0 ≤ r ∧ r ≤ 8) (k : Nat) : 0 ≤ run.getD k 0 ∧ run.getD k 0 ≤ 8 := by
  rw [List.getD_eq_getElem?_getD]
  cases h : run[k]? with
  | none => simp
  | some r => exact hr r (List.mem_of_getElem? h)
theorem bare_46 (hr : ∀ r ∈ run, 0 ≤ r ∧ r ≤ 8) (m : List Nat) : ∀ k, 46 ∈ bareN run m k ↔ 46 ∈ m
  | 0 => Iff.rfl
  | k + 1 => by rw [bare_succ, mem_next (getD_ok hr k).1, bare_46 hr m k]
theorem items_step (hr : ∀ r ∈ run, 0 ≤ r ∧ r ≤ 8) (k : Nat) : ∀ (ms : List (List Nat)) (pb : Nat → List Nat), (∀ m ∈ ms, Shape m) → stepAll (run.getD k 0) (pb k) (itemsN run k pb ms) = itemsN run (k + 1) pb ms
  | [], _, _ => rfl
  | m :: r, pb, h => by
    rw [itemsN, itemsN, stepAll, items_step hr k r (bareN run m) fun x hx => h x (List.mem_cons_of_mem _ hx)]
    congr 1
    unfold stepI
    have hm : 46 ∈ m ↔ m = [46] := ⟨nolf (h m (List.mem_cons_self ..)), fun e => e ▸ List.mem_cons_self ..⟩
    simp only [bare_46 hr m k, hm]
    rw [spN, bare_succ]
    congr 1
    by_cases e : m = [46]
    · simp only [if_pos e, cntF]
    · simp only [if_neg e]

theorem marksR_ok : ∀ (n : Nat) (t : List Nat), t.length ≤ n → (marksR t).flatten = t ∧ (∀ m ∈ marksR t, m ≠ [] ∧ Shape m) ∧ (∀ m, (marksR t).head? = some m → m = [10] → t.head? = some 10)
  | _, [], _ => ⟨rfl, fun m h => (by cases h), fun m h => (by cases h)⟩
  | 0, c :: t, h => by simp at h
  | n + 1, c :: t, h => by
    have hl : t.length ≤ n := by simpa using h
    by_cases hc : c = 13 ∧ t.head? = some 10
    · obtain ⟨rfl, ht⟩ := hc
      cases t with
      | nil => cases ht
      | cons d t =>
        injection ht with ht
        subst ht
        obtain ⟨i1, i2, i3⟩ := marksR_ok n t (by simp at hl; omega)
        rw [marksR]
        refine ⟨by rw [List.flatten_cons, i1]; rfl, fun m hm => ?_, fun m hm e => ?_⟩
        · rcases List.mem_cons.mp hm with rfl | hm
          · exact ⟨by simp, Or.inr (Or.inr rfl)⟩
          · exact i2 m hm
        · injection hm with hm
          rw [← hm] at e
          simp at e
    · obtain ⟨i1, i2, i3⟩ := marksR_ok n t hl
      rw [marksR]
      · refine ⟨by rw [List.flatten_cons, i1]; rfl, fun m hm => ?_, fun m hm e => ?_⟩
        · rcases List.mem_cons.mp hm with rfl | hm
          · exact ⟨by simp, Or.inr (Or.inl ⟨c, rfl⟩)⟩
          · exact i2 m hm
        · injection hm with hm
          rw [← hm] at e
          injection e with e
          rw [e]; rfl
      · intro r e1 e2
        subst e1 e2
        exact hc ⟨rfl, rfl⟩
theorem items0_text (run : List Int) : ∀ (ms : List (List Nat)) (pb : Nat → List Nat), textOf (itemsN run 0 pb ms) = ms.flatten
  | [], _ => rfl
  | m :: r, pb => by
    rw [itemsN, text_cons, items0_text run r, List.flatten_cons]
    simp only [cntF, ite_self, List.replicate_zero, List.nil_append, spN]
    rfl
theorem items0_head (run : List Int) (ms : List (List Nat)) (pb : Nat → List Nat) {j : Item} (h : (itemsN run 0 pb ms).head? = some j) : ∃ m, ms.head? = some m ∧ j.lf = m := by
  cases ms with
  | nil => cases h
  | cons m r => rw [itemsN] at h; injection h with h; exact ⟨m, rfl, h ▸ rfl⟩
theorem item0_ok (run : List Int) (pb : Nat → List Nat) {m : List Nat} (h : m ≠ [] ∧ Shape m) : Ok ⟨if m = [46] then cntF run pb 0 else 0, spN run m 0, bareN run m 0⟩ :=
  ⟨fun c hc => (by cases hc), Or.inl rfl, h.2, Or.inr h.1, fun _ => rfl, fun _ => by simp only [cntF, ite_self]⟩
theorem items0_good (run : List Int) : ∀ (n : Nat) (t : List Nat) (pb : Nat → List Nat), t.length ≤ n → Good (itemsN run 0 pb (marksR t))
  | _, [], _, _ => trivial
  | 0, c :: t, _, h => by simp at h
  | n + 1, c :: t, pb, h => by
    have hl : t.length ≤ n := by simpa using h
    by_cases hc : c = 13 ∧ t.head? = some 10
    · obtain ⟨rfl, ht⟩ := hc
      cases t with
      | nil => cases ht
      | cons d t =>
        injection ht with ht
        subst ht
        rw [marksR, itemsN]
        refine ⟨item0_ok run pb ⟨by simp, Or.inr (Or.inr rfl)⟩, fun j hj e => ?_, items0_good run n t _ (by simp at hl; omega)⟩
        have e' : ([13, 10] : List Nat) = [13] := e
        simp at e'
    · rw [marksR]
      · rw [itemsN]
        refine ⟨item0_ok run pb ⟨by simp, Or.inr (Or.inl ⟨c, rfl⟩)⟩, fun j hj e e2 => ?_, items0_good run n t _ hl⟩
        obtain ⟨m, hm, hm2⟩ := items0_head _ _ _ hj
        have e' : ([c] : List Nat) = [13] := e
        injection e' with e'
        exact hc ⟨e', (marksR_ok n t hl).2.2 m hm (hm2 ▸ e2)⟩
      · intro r e1 e2
        subst e1 e2
        exact hc ⟨rfl, rfl⟩

theorem cnt_eq (run : List Int) {ahead : List (List Nat)} {pb : Nat → List Nat} (h : ∀ k, k < 6 → ahead.getD k [] = pb k) : ∀ k, k ≤ 6 → cntN run ahead k = cntF run pb k
  | 0, _ => rfl
  | k + 1, hk => by rw [cntN, cntF, cnt_eq run h k (by omega), h k (by omega)]
theorem told_items (hl : run.length = 6) (hr : ∀ r ∈ run, 0 ≤ r ∧ r ≤ 8) : ∀ (ms : List (List Nat)) (ahead : List (List Nat)) (pb : Nat → List Nat), (∀ k, k < 6 → ahead.getD k [] = pb k) → toldR run ahead ms = textOf (itemsN run 6 pb ms)
  | [], _, _, _ => rfl
  | m :: r, ahead, pb, h => by
    rw [toldR, itemsN, text_cons, told_items hl hr r _ (bareN run m) fun k hk => bare_at run m (by omega)]
    unfold oneTold
    have e1 : (wayN run m 6).1 = spN run m 6 := by
      rw [way_sp hl hr m 6 (Nat.le_refl _)]
      have : lat run 6 = 0 := by
        unfold lat
        rw [List.drop_eq_nil_of_le (by omega)]
        rfl
      rw [this]; rfl
    rw [e1, cnt_eq run h 6 (Nat.le_refl _)]
    have e2 : (wayN run m 6).2.getD 6 [] = bareN run m 6 := rfl
    rw [e2]
    split <;> simp only [List.append_assoc, List.replicate_zero, List.nil_append]

end PL

/-- whatever the run: what the hands make of the text is what is told -/
theorem plain_law {run : List Int} (hl : run.length = 6) (hr : ∀ r ∈ run, 0 ≤ r ∧ r ≤ 8) (text : List Nat) : run.foldl (fun t d => doneF d t) text = toldF run text := by
  have key : ∀ k, k ≤ 6 → (run.take k).foldl (fun t d => doneF d t) text = PL.textOf (PL.itemsN run k (fun _ => [13, 10]) (PL.marksR text)) ∧ PL.Good (PL.itemsN run k (fun _ => [13, 10]) (PL.marksR text)) := by
    intro k
    induction k with
    | zero =>
      intro _
      refine ⟨?_, PL.items0_good run text.length text _ (Nat.le_refl _)⟩
      rw [PL.items0_text, (PL.marksR_ok text.length text (Nat.le_refl _)).1]
      rfl
    | succ k ih =>
      intro hk
      obtain ⟨i1, i2⟩ := ih (by omega)
      have e : run[k]? = some (run.getD k 0) := by
        rw [List.getD_eq_getElem?_getD, List.getElem?_eq_getElem (by omega)]; rfl
      have hs := PL.items_step hr k (PL.marksR text) (fun _ => [13, 10]) fun m hm => ((PL.marksR_ok text.length text (Nat.le_refl _)).2.1 m hm).2
      have hd := PL.getD_ok hr k
      rw [List.take_add_one, e, List.foldl_append, i1, ← hs]
      exact ⟨PL.done_step hd.1 hd.2 i2, PL.good_step hd.1 _ _ i2⟩
  have h6 := (key 6 (Nat.le_refl _)).1
  rw [List.take_of_length_le (by omega)] at h6
  rw [h6, toldF, PL.told_fold, PL.marksF_R, List.nil_append]
  refine (PL.told_items hl hr _ _ _ fun k hk => ?_).symm
  have h : k = 0 ∨ k = 1 ∨ k = 2 ∨ k = 3 ∨ k = 4 ∨ k = 5 := by omega
  rcases h with rfl | rfl | rfl | rfl | rfl | rfl <;> rfl
end Mine
end

-- C133
section
open PySem PySem.W PyProof.Rows PyProof.V PySem.Spec
set_option Elab.async false
set_option maxRecDepth 100000
set_option maxHeartbeats 8000000
namespace Mine
theorem lit_ampS : Str.ofString "amp;" = S ampS := by decide +kernel
theorem lit_one (c : Nat) : (⟨#[c]⟩ : Str) = S [c] := rfl
theorem lit_none : Str.ofString "" = S [] := by decide +kernel
theorem lit_crlf : Str.ofString "\r\n" = S [13, 10] := by decide +kernel
local macro_rules | `(tactic| walk_at "exec For") => `(tactic| (k_here; refine hold_out ?_))
local macro_rules | `(tactic| walk_at "pyIter ref") => `(tactic| ((with_reducible show wpAny _ _ (pyIter (Value.ref _)) (fun it s₂ => LoopAtV _ _ _ _ _ _ _ _ _ it s₂) _ _); refine hold_out ?_))
local macro_rules | `(tactic| walk_at "pyIter str") => `(tactic| ((with_reducible show wpAny _ _ (pyIter (Value.str _ _)) (fun it s₂ => LoopAtV _ _ _ _ _ _ _ _ _ it s₂) _ _); refine hold_out ?_))
local macro_rules | `(tactic| walk_at "subscriptTail Name Name ref int") => `(tactic| (k_here; (with_reducible show wpAny _ _ (subscriptTail _ _ (Value.ref _) (Value.int (Nat.cast _) _)) _ _ _); k_dflt (refine' item_my ?k1 ?k2 ?k3 ?k4 ?_; (case k1 => k_asm); (case k2 => k_mem); (case k3 => assumption); (case k4 => omega); k_whole)))
local macro_rules | `(tactic| walk_at "call builtin:list.append") => `(tactic| (k_here; refine hold_out ?_))
local macro_rules | `(tactic| walk_at "eval ListComp") => `(tactic| (k_here; (with_reducible show wpAny _ _ (eval (Expr.ListComp (Expr.Name (PySem.Str.ofString "hand") _) _ _ _) _) _ _ _); k_dflt (refine LCt.ListComp_T (F₀ := by k_asm) (by with_unfolding_all rfl) (by decide) (by rfl) (by decide) (by rfl) ?_)))
local macro_rules | `(tactic| walk_at "CompSrcT") => `(tactic| (k_here; refine hold_out ?_))
local macro_rules | `(tactic| walk_at "subscriptTail Name Slice ref ref") => `(tactic| (k_here; k_dflt (refine' slice_from ?k1 ?k2 ?k3 ?k4 ?k5 ?_; (case k1 => k_asm); (case k2 => k_asm); (case k3 => k_mem); (case k4 => assumption); (case k5 => omega); k_whole); intro D' ws' h' F' N' l1 hI'))
local macro_rules | `(tactic| walk_at "subscriptTail Name Subscript ref int") => `(tactic| (k_here; (with_reducible show wpAny _ _ (subscriptTail _ _ (Value.ref _) (Value.int (Nat.cast _) _)) _ _ _); k_dflt (refine' item_my ?k1 ?k2 ?k3 ?k4 ?_; (case k1 => k_asm); (case k2 => k_mem); (case k3 => assumption); (case k4 => omega); k_whole)))
local macro_rules | `(tactic| walk_at "call builtin:len") => `(tactic| (k_here; (with_reducible show wpAny _ _ (call (Value.builtin "len") [Value.ref _]) _ _ _); k_dflt (refine' len_my (c := laterN _ _) ?k1 ?k2 ?k3 ?k4 ?_; (case k1 => k_asm); (case k2 => assumption); (case k3 => rfl); (case k4 => (refine Nat.le_trans (List.length_filter_le _ _) ?_; rw [List.length_drop]; omega))); intro t' k'))
local macro_rules | `(tactic| walk_at "compareOp In str ref") => `(tactic| (k_here; (with_reducible show wpAny _ _ (compareOp CmpOp.In (Value.str (PySem.Str.mk (List.toArray [_])) _) (Value.ref _)) _ _ _); k_dflt (refine' in_name ?k1 ?k2 ?k3 ?k4 ?_; (case k1 => k_asm); (case k2 => k_mem); (case k3 => with_reducible assumption); (case k4 => with_reducible assumption); k_whole); intro k'))
local macro_rules | `(tactic| walk_at "subscriptTail Name Name ref str") => `(tactic| (k_here; k_dflt (refine' item_name ?k1 ?k2 ?k3 ?k4 ?_; (case k1 => k_asm); (case k2 => k_mem); (case k3 => with_reducible assumption); (case k4 => with_reducible assumption); k_whole); intro u' k'))
local macro_rules | `(tactic| walk_at "binaryOp Mult str int") => `(tactic| (k_here; k_dflt (refine' mul_S ?k1 ?k2 ?k3 ?_; (case k1 => exact lit_ampS); (case k2 => decide); (case k3 => omega); k_whole); intro t' k'))
local macro_rules | `(tactic| walk_at "binaryOp Add str str") => `(tactic| (k_here; k_dflt (refine' add_S ?k1 ?k2 ?k3 ?k4 ?_; (case k1 => first | exact lit_amp | exact rfl); (case k2 => first | exact lit_one _ | exact rfl); (case k3 => first | assumption | omega | decide | (simp only [List.length_append, List.length_cons, List.length_nil]; omega)); (case k4 => first | assumption | omega | decide | (simp only [List.length_append, List.length_cons, List.length_nil]; omega)); k_whole); intro t' k'))
local macro_rules | `(tactic| walk_at "inplaceOp Add str str") => `(tactic| (k_here; k_dflt (refine' iadd_S ?k1 ?k2 ?k3 ?k4 ?_; (case k1 => first | exact lit_amp | exact rfl); (case k2 => first | exact lit_one _ | exact rfl); (case k3 => first | assumption | omega | decide | (simp only [List.length_append, List.length_cons, List.length_nil]; omega)); (case k4 => first | assumption | omega | decide | (simp only [List.length_append, List.length_cons, List.length_nil]; omega)); k_whole); intro t' k'))

theorem truthy_by {M : Model} {A : Around} {b c : Bool} {Q : Bool → Shared → Prop} {E : Value → Shared → Prop} {s : Shared} (h : b = c) (k : wpAny M A (truthy (.bool c)) Q E s) : wpAny M A (truthy (.bool b)) Q E s := h ▸ k
local macro_rules | `(tactic| walk_at "truthy bool") => `(tactic| (k_here; refine truthy_by (b := List.any _ _) (c := false) (by with_reducible assumption) ?_))
/-- the tuple (spelled, bare) on the ledger -/
abbrev WayRet (mk : List Nat) (run : List Int) (h₀ : Heap) (L : Addr) (m : Str → Option Value) (all : List (Addr × Obj)) (s : Shared) (Q : Value → Shared → Prop) : Prop :=
  ∀ (T B : Addr) (ys : List Value) (nn c : Nat) (t : Tok) (h' : Heap) (tk' : Nat), Fr h₀ L h' m →
    News h₀ L h' ((T, ({ cls := .type "tuple", data := .seq #[.str (S (wayN run mk 6).1) t, .ref B] c } : Obj)) :: (B, W.listOf ys.toArray nn) :: all) → StrsAre ys ((wayN run mk 6).2.map S) → AllLt B all → AllLt T all →
    Q (.ref T) { s with heap := h', toks := tk' }

/-- the dict of the hand q -/
theorem pick_name {prog : Program} {w : World} {d0 d1 d2 d3 d4 : Addr} {o0 o1 o2 o3 o4 : Obj} (h0 : NameObj prog w nt0 d0 o0) (h1 : NameObj prog w nt1 d1 o1) (h2 : NameObj prog w nt2 d2 o2) (h3 : NameObj prog w nt3 d3 o3) (h4 : NameObj prog w nt4 d4 o4) {q : Nat} (hq : q < 5) :
    ∃ dq oq, (#[Value.ref d0, Value.ref d1, Value.ref d2, Value.ref d3, Value.ref d4] : Array Value)[q]? = some (.ref dq) ∧ (dq, oq) ∈ [(d4, o4), (d3, o3), (d2, o2), (d1, o1), (d0, o0)] ∧ NameObj prog w (NT (q : Int)) dq oq := by
  have h : q = 0 ∨ q = 1 ∨ q = 2 ∨ q = 3 ∨ q = 4 := by omega
  rcases h with rfl | rfl | rfl | rfl | rfl
  · exact ⟨d0, o0, rfl, by simp, h0⟩
  · exact ⟨d1, o1, rfl, by simp, h1⟩
  · exact ⟨d2, o2, rfl, by simp, h2⟩
  · exact ⟨d3, o3, rfl, by simp, h3⟩
  · exact ⟨d4, o4, rfl, by simp, h4⟩
theorem ne_cons {B : Addr} {p : Addr × Obj} {l : List (Addr × Obj)} (h1 : p.1 ≠ B) (h : ∀ q ∈ l, q.1 ≠ B) : ∀ q ∈ p :: l, q.1 ≠ B := fun q hq => by
  rcases List.mem_cons.mp hq with rfl | hq
  · exact h1
  · exact h q hq
theorem put_in {h₀ h : Heap} {L : Addr} {p : Addr × Obj} {all : List (Addr × Obj)} (N : News h₀ L h all) (hp : p ∈ all) : News h₀ L h (p :: all) := fun q hq => by
  rcases List.mem_cons.mp hq with rfl | hq
  · exact N _ hp
  · exact N q hq

theorem c133 (mk : List Nat) (t : Tok) (Lr Ln d0 d1 d2 d3 d4 : Addr) (o0 o1 o2 o3 o4 : Obj) (rv : List Value) (rn : Nat) (run : List Int) : ∀ (w : World) (s₀ : Shared) (mg mb : Str → Option Value) (news : List (Addr × Obj)) (dp un : Nat) (gd : Option (List Code)) (cn : Str) (cs : Scope) (a : Addr) (ccd : Value) (cl : List (Str × Addr)) (outer : List Env) (A₀ : Around) (base h₀ : Heap) (L : Addr) (m : Str → Option Value) (s : Shared) (Q E : Value → Shared → Prop),
    Below A₀ base outer h₀ → Fr h₀ L s.heap m → (hd.heap_39 w.params).In h₀ → News h₀ L s.heap ((Lr, W.listOf rv.toArray rn) :: (Ln, W.listOf #[.ref d0, .ref d1, .ref d2, .ref d3, .ref d4] 0) :: (d4, o4) :: (d3, o3) :: (d2, o2) :: (d1, o1) :: (d0, o0) :: news) → Top hd.view_39 (looseW hd.view_39 [Str.ofString "_twin_re_1", Str.ofString "_twin_re_2", Str.ofString "_twin_re_3"]) (ExcName.means s₀.heap) mg mb h₀ → cs.kind = .function →
    NameObj Challenge.rw_pe0100_01.row.prog w nt0 d0 o0 → NameObj Challenge.rw_pe0100_01.row.prog w nt1 d1 o1 → NameObj Challenge.rw_pe0100_01.row.prog w nt2 d2 o2 → NameObj Challenge.rw_pe0100_01.row.prog w nt3 d3 o3 → NameObj Challenge.rw_pe0100_01.row.prog w nt4 d4 o4 →
    IntsAre rv run → run.length = 6 → (∀ r ∈ run, 0 ≤ r ∧ r ≤ 8) → mk.length ≤ 2 →
    dp + 3 < recursionLimit → un + 24 < cLine → WayRet mk run h₀ L m ((Lr, W.listOf rv.toArray rn) :: (Ln, W.listOf #[.ref d0, .ref d1, .ref d2, .ref d3, .ref d4] 0) :: (d4, o4) :: (d3, o3) :: (d2, o2) :: (d1, o1) :: (d0, o0) :: news) s Q →
      wpAny (model Challenge.rw_pe0100_01.row.prog w) (ktrTop dp un gd cn cs L a ccd cl outer) (call (.ref 133) [.str (S mk) t, .ref Lr, .ref Ln]) Q E s := by
  k_fill
  intros
  rename_i hn0 hn1 hn2 hn3 hn4 hIA hRL hR8 hmk _ _ hret
  refine wpAny_call ?_
  k_dflt cell_enter
  k_steps
  all_goals try (exfalso; omega)
  rename IsRange _ _ _ _ _ _ _ _ => hR
  rename Fr _ _ _ _ => F1
  rename News _ _ _ _ => N1
  rename _ ∧ _ => hlt
  unfold Hold
  k_dflt (refine' way_loop (mk := mk) (run := run) (Lr := Lr) (Ln := Ln) rfl hR F1 N1 ?hB ?hsp rfl rfl rfl ?turn ?done)
  case hsp => rw [show S [] = Str.ofString "" by decide +kernel]; rfl
  case hB => refine fun p hp => Nat.ne_of_lt (kst_ltOf ?_ p hp); exact hlt
  case done =>
    intro ys nn t2 m1 h2 tk2 hS e1 e2 F2 N2
    clear F1 N1
    rw [know_cons e1 (know_cons e2 (rfl : m1 = m1))] at F2
    k_steps
    rename _ ∧ _ => hlt2
    refine hret _ _ ys nn _ t2 _ _ (by assumption) (by assumption) hS ?_ ?_
    · exact hlt
    · exact hlt2.2
  case turn =>
    intro i tt ys nn tb t2 m1 h2 tk2 I oI hi hS hyi hyl hneB F2 N2
    clear F1 N1
    simp only [List.cons_append] at N2 hneB
    have hyi' : ys.toArray[i]? = some (.str (S ((wayN run mk i).2.getD i [])) tb) := by simpa using hyi
    have hrl : i < run.length := by omega
    obtain ⟨tr, htr⟩ := hIA.get i run[i] (by simp [hrl])
    have hr0 : 0 ≤ run[i] ∧ run[i] ≤ 8 := hR8 _ (List.getElem_mem hrl)
    have hrg : run.getD i 0 = run[i] := by rw [List.getD_eq_getElem?_getD, List.getElem?_eq_getElem hrl]; rfl
    have hri : rv.toArray[i]? = some (.int run[i] tr) := by simpa using htr
    rw [hrg]
    have hbd := wayN_bound run mk hmk hRL i (by omega)
    generalize run[i] = r at hr0 hri htr hrg ⊢
    clear htr hyi hS
    generalize hsp9 : (wayN run mk i).1 = sp at *
    generalize hlf9 : (wayN run mk i).2.getD i [] = lf at *
    clear hsp9 hlf9
    have hspl : sp.length ≤ 10000 := hbd.1
    have hlfl : lf.length ≤ 2 := hbd.2
    have h3 : r < 5 ∨ (r = 5 ∨ r = 6) ∨ (r = 7 ∨ r = 8) := by omega
    rcases h3 with h5 | h56 | h78
    · obtain ⟨q, rfl⟩ := Int.eq_ofNat_of_zero_le hr0.1
      have hq5 : q < 5 := by omega
      obtain ⟨dq, oq, hdq, hmq, hNq⟩ := pick_name hn0 hn1 hn2 hn3 hn4 hq5
      have N3 := put_in N2 (List.mem_cons_of_mem _ (List.mem_cons_of_mem _ (List.mem_cons_of_mem _ (List.mem_append_left (as := [(d4, o4), (d3, o3), (d2, o2), (d1, o1), (d0, o0)]) _ hmq))))
      have hneB3 := ne_cons (hneB (dq, oq) (List.mem_cons_of_mem _ (List.mem_cons_of_mem _ (List.mem_append_left (as := [(d4, o4), (d3, o3), (d2, o2), (d1, o1), (d0, o0)]) _ hmq)))) hneB
      clear N2 hmq hr0 hrg hn0 hn1 hn2 hn3 hn4 hbd
      have hq56 : ([5, 6].any fun x => x == (q : Int)) = false := by
        simp only [List.any_cons, List.any_nil, Bool.or_false, Bool.or_eq_false_iff, beq_eq_false_iff_ne]
        omega
      have hsN : Short (NT (q : Int)) := short_NT _
      have hlF : leftF (q : Int) lf = lf := by unfold leftF; rw [if_neg (by omega)]
      have htF : turnF run i (q : Int) sp lf = (sp ++ lf.flatMap (spellC (laterN run i) (NT (q : Int))), lf.flatMap (stayC (NT (q : Int)))) := by unfold turnF; rw [if_pos h5, hlF]
      rw [htF]
      clear htF hlF
      generalize NT (q : Int) = TT at *
      k_steps
      unfold Hold
      rename IntsAre _ _ => hI9
      rename Fr _ _ _ _ => F9
      rename News _ _ _ _ => N9
      k_dflt (refine' LCt.CompSrcT.ledger rfl F9 N9 (by k_mem) ?sz ?_)
      case sz => rw [List.size_toArray, hI9.length, sizeLine_eq, List.length_drop]; omega
      intro g9
      k_dflt (refine' restT_of (fun a => decide (a < 5)) (by rw [List.toList_toArray]; exact hI9) (by lcg_src) ?te ?el ?_)
      case te => intro n9 t9 I9 oI9 C9 oC9 D9 m9 ys9 h9 tk9 E9 hn9 hC9 hx9 F9 N9; k_steps
      case el => intro n9 t9 I9 oI9 C9 oC9 D9 m9 ys9 h9 tk9 E9 hn9 hC9 hx9 F9 N9; k_steps
      intro ys9 hys9
      k_steps
      unfold Hold
      rename Fr _ _ _ _ => F5
      rename News _ _ _ _ => N5
      have hla : laterN run i ≤ 6 := by refine Nat.le_trans (List.length_filter_le _ _) ?_; rw [List.length_drop]; omega
      k_dflt (refine For_invVF F5 rfl rfl ?_)
      k_steps
      unfold Hold
      k_dflt (refine' sign_loop TT (sp := sp) (lf := lf) (later := laterN run i) rfl F5 (drop_to (o := W.listOf ys.toArray nn) hneB3 N5 (by kcj_all)) rfl ?h2 rfl rfl rfl rfl rfl ?turn2 ?done2)
      case h2 => rw [← lit_none]; rfl
      case turn2 =>
        intro j c tt t3 t4 t5 t6 m3 h6 tk6 I2 oI2 hc F6 N6
        clear F5 N5 N3
        simp only [List.cons_append] at N6
        have hA : (sp ++ (lf.take j).flatMap (spellC (laterN run i) TT)).length ≤ 20000 := by
          have := flat_le (spellC_len hla (T := TT) hsN) (lf.take j)
          rw [List.length_append]; rw [List.length_take] at this; omega
        have hB2 : ((lf.take j).flatMap (stayC TT)).length ≤ 20000 := by
          have := flat_le (stayC_len TT) (lf.take j)
          rw [List.length_take] at this; omega
        generalize hg1 : sp ++ (lf.take j).flatMap (spellC (laterN run i) TT) = spA at *
        generalize hg2 : (lf.take j).flatMap (stayC TT) = stA at *
        cases hz : TT.lookup c with
        | none =>
          have hzb : (TT.lookup c).isSome = false := by rw [hz]; rfl
          k_steps
          rename Fr _ _ _ _ => F7
          rename News _ _ _ _ => N7
          k_dflt (refine' signEnd_of F7 N7 ?e1 ?e2 rfl rfl rfl rfl rfl rfl rfl)
          case e1 => unfold spellC; rw [hz]; simp
          case e2 => unfold stayC; rw [hzb]; simp
        | some z =>
          have hzb : (TT.lookup c).isSome = true := by rw [hz]; rfl
          have hzl : z.length ≤ 10 := hsN _ (look_mem hz)
          have hR1 : (List.replicate (laterN run i) ampS).flatten.length ≤ 100 := by rw [rep_len]; simp only [ampS, List.length_cons, List.length_nil]; omega
          k_steps
          rename Fr _ _ _ _ => F7
          rename News _ _ _ _ => N7
          k_dflt (refine' signEnd_of F7 N7 ?e1 ?e2 rfl rfl rfl rfl rfl rfl rfl)
          case e1 => unfold spellC; rw [hz]; simp
          case e2 => unfold stayC; rw [hzb]; simp
      case done2 =>
        intro t3 t4 m3 h6 tk6 F6 N6
        clear F5 N5 N3
        k_steps
        unfold Hold
        rename Fr _ _ _ _ => F3
        rename News _ _ _ _ => N3
        k_dflt (refine' append_my (ys := ys) (nn := nn) F3 (drop_to (o := W.listOf ys.toArray nn) hneB N3 (by kcj_all)) hneB ?hz ?_)
        case hz => omega
        intro h4 F4 N4
        k_steps
        k_dflt (refine' wayEnd_of F4 N4 ?e rfl rfl rfl rfl)
        case e => rfl
    · clear hbd hr0 hrg hn0 hn1 hn2 hn3 hn4
      rcases h56 with rfl | rfl
      · k_steps
        · rename (_ = true) => hany
          unfold Hold
          rename Fr _ _ _ _ => F3
          rename News _ _ _ _ => N3
          k_dflt (refine' append_my (ys := ys) (nn := nn) F3 (drop_to (o := W.listOf ys.toArray nn) hneB N3 (by kcj_all)) hneB ?hz ?_)
          case hz => omega
          intro h4 F4 N4
          k_steps
          rw [lit_crlf] at N4
          k_dflt (refine' wayEnd_of F4 N4 ?e rfl rfl rfl rfl)
          case e => exact turnF_eol (by omega) hany
        · rename (_ = false) => hany
          unfold Hold
          rename Fr _ _ _ _ => F3
          rename News _ _ _ _ => N3
          k_dflt (refine' append_my (ys := ys) (nn := nn) F3 (drop_to (o := W.listOf ys.toArray nn) hneB N3 (by kcj_all)) hneB ?hz ?_)
          case hz => omega
          intro h4 F4 N4
          k_steps
          k_dflt (refine' wayEnd_of F4 N4 ?e rfl rfl rfl rfl)
          case e => exact turnF_no (by omega) hany
      · k_steps
        · rename (_ = true) => hany
          unfold Hold
          rename Fr _ _ _ _ => F3
          rename News _ _ _ _ => N3
          k_dflt (refine' append_my (ys := ys) (nn := nn) F3 (drop_to (o := W.listOf ys.toArray nn) hneB N3 (by kcj_all)) hneB ?hz ?_)
          case hz => omega
          intro h4 F4 N4
          k_steps
          rw [lit_crlf] at N4
          k_dflt (refine' wayEnd_of F4 N4 ?e rfl rfl rfl rfl)
          case e => exact turnF_eol (by omega) hany
        · rename (_ = false) => hany
          unfold Hold
          rename Fr _ _ _ _ => F3
          rename News _ _ _ _ => N3
          k_dflt (refine' append_my (ys := ys) (nn := nn) F3 (drop_to (o := W.listOf ys.toArray nn) hneB N3 (by kcj_all)) hneB ?hz ?_)
          case hz => omega
          intro h4 F4 N4
          k_steps
          k_dflt (refine' wayEnd_of F4 N4 ?e rfl rfl rfl rfl)
          case e => exact turnF_no (by omega) hany
    · have htF : turnF run i r sp lf = (sp, lf) := by unfold turnF leftF; rw [if_neg (by omega), if_neg (by omega)]
      rw [htF]
      clear htF hbd hr0 hrg hn0 hn1 hn2 hn3 hn4
      rcases h78 with rfl | rfl
      · k_steps
        unfold Hold
        rename Fr _ _ _ _ => F3
        rename News _ _ _ _ => N3
        k_dflt (refine' append_my (ys := ys) (nn := nn) F3 (drop_to (o := W.listOf ys.toArray nn) hneB N3 (by kcj_all)) hneB ?hz ?_)
        case hz => omega
        intro h4 F4 N4
        k_steps
        k_dflt (refine' wayEnd_of F4 N4 ?e rfl rfl rfl rfl)
        case e => rfl
      · k_steps
        unfold Hold
        rename Fr _ _ _ _ => F3
        rename News _ _ _ _ => N3
        k_dflt (refine' append_my (ys := ys) (nn := nn) F3 (drop_to (o := W.listOf ys.toArray nn) hneB N3 (by kcj_all)) hneB ?hz ?_)
        case hz => omega
        intro h4 F4 N4
        k_steps
        k_dflt (refine' wayEnd_of F4 N4 ?e rfl rfl rfl rfl)
        case e => rfl
end Mine
end

-- Loop2
section
open PySem PySem.W PyProof.Rows PySem.Calls
set_option Elab.async false
set_option maxRecDepth 100000
set_option maxHeartbeats 4000000
namespace Mine

section
variable {prog : Program} {w : World} {A : Around} {E : Value → Shared → Prop} {s : Shared} {env : Env} {h₀ : Heap} {x : Str} {body : List Stmt} {Q : Flow → Shared → Prop}

/-- a loop over a list of texts of the ledger, which no turn changes -/
theorem for_list {l : Addr} {ys : List Value} {nn : Nat} {zs : List Str} {m₀ : Str → Option Value} {news : List (Addr × Obj)} (J : Nat → (Str → Option Value) → List (Addr × Obj) → Prop)
    (hJl : ∀ i m₁ nx, J i m₁ nx → (l, W.listOf ys.toArray nn) ∈ nx)
    (hh : A.handled = none) (hS : StrsAre ys zs) (F : Fr h₀ env.locals s.heap m₀) (N : News h₀ env.locals s.heap news) (hj : J 0 m₀ news)
    (turn : ∀ (i : Nat) y tt m₁ news₁ h tk oI, zs[i]? = some y → J i m₁ news₁ → (∀ q ∈ news₁, q.1 ≠ s.heap.objs.size) → Fr h₀ env.locals h (fun z => if z = x then some (.str y tt) else m₁ z) → News h₀ env.locals h (news₁ ++ [(s.heap.objs.size, oI)]) →
      wpAny (model prog w) A (execs body env) (TurnEnd h₀ env.locals s.heap.objs.size oI (J (i + 1)) { s with heap := h, toks := tk }) E { s with heap := h, toks := tk })
    (done : ∀ m₁ nx h tk, J zs.length m₁ nx → Fr h₀ env.locals h m₁ → News h₀ env.locals h nx → Q .next { s with heap := h, toks := tk }) :
    wpAny (model prog w) A (pyIter (.ref l)) (fun it s₂ => LoopAtV prog w A h₀ env x body Q E it s₂) E s := by
  have hl := N _ (hJl 0 m₀ news hj)
  have hls : s.heap.IsList l ys.toArray := ⟨_, hl.1, rfl, _, rfl⟩
  have hlt : l < s.heap.objs.size := Heap.lt_size hl.1
  have hne : l ≠ s.heap.objs.size := Nat.ne_of_lt hlt
  refine wpAny_pyIter_list hls ?_
  refine ⟨s.heap.objs.size, [s.heap.objs.size, l], [s.heap.objs.size], ys.toArray.size, _, _, m₀, news, J, rfl, Walks.list hh _ l hne ys.toArray, ?_, ?_, ?_,
    ⟨⟨_, Heap.get?_push_size _ rfl, rfl, rfl⟩, hls.at fun o e => Heap.get?_push_of_some _ e⟩, F.push _, fun p hp => ⟨Heap.get?_push_of_some _ (N p hp).1, (N p hp).2⟩, hj, ?_, ?_⟩
  · intro hm
    rcases List.mem_cons.mp hm with e | hm
    · exact absurd F.ns.lt (e ▸ Nat.lt_irrefl _)
    · exact absurd (List.mem_singleton.mp hm).symm hl.2.1
  · intro b hb
    rw [List.mem_singleton.mp hb]
    exact next_is_new F
  · intro p hp hI
    exact absurd (Heap.lt_size (N p hp).1) ((List.mem_singleton.mp hI) ▸ Nat.lt_irrefl _)
  · rintro i v m₁ news₁ s₁ own ⟨hh', tk', rfl⟩ hin hP hJ hoff hown hget hall hst' F₁ N₁
    obtain ⟨oI, hoI⟩ : ∃ oI, hh'.get? s.heap.objs.size = some oI := ⟨_, hst'.1.choose_spec.1⟩
    have hIn : (s.heap.objs.size, oI) ∈ own := hall _ (List.mem_cons_self ..) (next_is_new F) oI hoI
    have N₂ : News h₀ env.locals hh' (news₁ ++ [(s.heap.objs.size, oI)]) := fun p hp => by
      rcases List.mem_append.mp hp with hp | hp
      · exact N₁ p (List.mem_append_right _ hp)
      · rw [List.mem_singleton.mp hp]
        exact N₁ _ (List.mem_append_left _ hIn)
    have hv : ys[i]? = some v := by simpa using hP
    obtain ⟨y, t, rfl, hy⟩ := hS.item i v hv
    refine wpAny_mono (turn i y t m₁ news₁ hh' tk' oI hy hJ (fun q hq e => hoff q hq (List.mem_singleton.mpr e)) F₁ N₂) (fun f s₂ p => ?_) fun _ _ e => e
    obtain ⟨rfl, h', tk, m₂, news₂, e, F', N', hne2, hJ'⟩ := p
    refine .next ⟨rfl, h', tk, m₂, news₂, e, F', fun p hp => ?_, fun q hq hm => hne2 q hq (List.mem_singleton.mp hm), hJ'⟩
    rcases List.mem_append.mp hp with hp | hp
    · have e2 := hget p hp
      rcases List.mem_cons.mp (hown p hp) with e1 | e1
      · rw [e1] at e2
        have e3 : p = (s.heap.objs.size, oI) := by
          have : p.2 = oI := Option.some.inj (e2.symm.trans hoI)
          rw [← e1, ← this]
        rw [e3]
        exact N' _ (List.mem_append_right _ (List.mem_singleton.mpr rfl))
      · have e1 := List.mem_singleton.mp e1
        rw [e1] at e2
        have e4 := (N₂ _ (List.mem_append_left _ (hJl i m₁ news₁ hJ))).1
        have e3 : p = (l, W.listOf ys.toArray nn) := by
          have : p.2 = W.listOf ys.toArray nn := Option.some.inj (e2.symm.trans e4)
          rw [← e1, ← this]
        rw [e3]
        exact N' _ (List.mem_append_left _ (hJl _ _ _ hJ'))
    · exact N' p (List.mem_append_left _ hp)
  · intro h' tk m' news' F' N' _ hJ
    have e : ys.toArray.size = zs.length := by rw [List.size_toArray, strs_len hS]
    rw [e] at hJ
    exact done m' news' h' tk hJ F' N'
end

section
variable {prog : Program} {w : World} {A : Around} {E : Value → Shared → Prop} {s : Shared} {h₀ : Heap} {L : Addr} {m : Str → Option Value} {news : List (Addr × Obj)}

theorem strs_ext {a b : List Str} (h : a.length = b.length) : (List.range a.length).all (fun j => a.getD j Str.empty == b.getD j Str.empty) = decide (a = b) := by
  rw [Bool.eq_iff_iff, List.all_eq_true, decide_eq_true_eq]
  constructor
  · intro hj
    refine List.ext_getElem h fun i h1 h2 => ?_
    have := hj i (List.mem_range.mpr h1)
    rw [List.getD_eq_getElem?_getD, List.getD_eq_getElem?_getD, List.getElem?_eq_getElem h1, List.getElem?_eq_getElem h2] at this
    simpa using this
  · rintro rfl j _
    simp

theorem eq_strsK {a b : Addr} {vs us : List Value} {xs ys : List Str} {Q : Value → Shared → Prop} (ha : s.heap.IsList a vs.toArray) (hi : StrsAre vs xs) (hb : s.heap.IsList b us.toArray) (hj : StrsAre us ys) (hu : A.units < cLine)
    (h : Q (.bool (decide (xs = ys))) s) : wpAny (model prog w) A (compareOp .Eq (.ref a) (.ref b)) Q E s := by
  by_cases hl : xs.length = ys.length
  · refine SeqAt.eq_listAt (e := fun j => xs.getD j Str.empty == ys.getD j Str.empty) ha hb (by simp [strs_len hi, strs_len hj, hl]) hu (fun j h1 h2 => ?_) ?_
    · have h1' : j < vs.length := by simpa using h1
      have h2' : j < us.length := by simpa using h2
      obtain ⟨t, e1⟩ := strs_get hi j (by rw [← strs_len hi]; exact h1')
      obtain ⟨u, e2⟩ := strs_get hj j (by rw [← strs_len hj]; exact h2')
      have g1 : vs.toArray[j] = .str (xs.getD j Str.empty) t := by
        have : vs[j]? = some vs[j] := List.getElem?_eq_getElem h1'
        rw [this] at e1
        simpa using Option.some.inj e1
      have g2 : us.toArray[j] = .str (ys.getD j Str.empty) u := by
        have : us[j]? = some us[j] := List.getElem?_eq_getElem h2'
        rw [this] at e2
        simpa using Option.some.inj e2
      rw [g1, g2]
      exact SeqAt.EqAt.str_str _ _ _ _
    · rw [List.size_toArray, strs_len hi, strs_ext hl]
      exact h
  · refine SeqAt.eq_list_lengthsAt ha hb (by simp [strs_len hi, strs_len hj, hl]) hu ?_
    have : decide (xs = ys) = false := decide_eq_false fun e => hl (by rw [e])
    rw [this] at h
    exact h

theorem strs_drop {vs : List Value} {xs : List Str} (h : StrsAre vs xs) (k : Nat) : StrsAre (vs.drop k) (xs.drop k) := h.drop' k

/-- xs[-1:] of a list of texts -/
theorem slice_last {value slice : PySem.Expr} {l : Addr} {rn : Nat} {rv : List Value} {zs : List Str} {tt : Tok} {Q : Value → Shared → Prop} (F : Fr h₀ L s.heap m) (N : News h₀ L s.heap news) (hm : (l, W.listOf rv.toArray rn) ∈ news) (hi : StrsAre rv zs) (hl : zs.length ≤ 1000)
    (h : ∀ D ws h', Fr h₀ L h' m → News h₀ L h' ((D, W.listOf (List.toArray ws) 0) :: news) → (∀ p ∈ news, p.1 < D) → StrsAre ws (zs.drop (zs.length - 1)) → Q (.ref D) { s with heap := h' })
    (hs : subscripted slice false (.ref l) (.ref s.heap.objs.size) = operate [.ref s.heap.objs.size, .ref l] (getItem (.ref l) (.ref s.heap.objs.size)) := by with_unfolding_all rfl) (ht : ∀ r, letTemporaryGo value (.ref l) r = pure () := by intro _; with_unfolding_all rfl) :
    wpAny (model prog w) A (subscriptTail value slice (.ref l) (.ref s.heap.objs.size)) Q E { s with heap := s.heap.push { cls := .type "slice", data := .fields #[.int (-1) tt, .none, .none] } } := by
  refine kmk_slice_lit (lo := some (-1)) (hi := none) (zs := rv.drop (zs.length - 1)) F N ⟨_, (N _ hm).1, rfl, _, rfl⟩ (by constructor) (by constructor) ?_ (fun D h' F' N' l1 => h D _ h' F' N' l1 (strs_drop hi _)) hs ht ?_
  · have e := slicePick_last rv.toArray 1 (Nat.le_refl _)
    rw [show ((-1 : Int)) = -((1 : Nat) : Int) by decide, e]
    simp [strs_len hi]
  · rw [List.size_toArray, strs_len hi, sizeLine_eq]
    omega

/-- xs[-1] = y -/
theorem set_last {B : Addr} {ys : List Value} {nn : Nat} {y : Value} {tt : Tok} {Q : Unit → Shared → Prop} (F : Fr h₀ L s.heap m) (N : News h₀ L s.heap ((B, W.listOf ys.toArray nn) :: news)) (hB : ∀ p ∈ news, p.1 ≠ B) (hz : ys ≠ [])
    (h : ∀ h', Fr h₀ L h' m → News h₀ L h' ((B, W.listOf (ys.dropLast ++ [y]).toArray nn) :: news) → Q () { s with heap := h' }) : wpAny (model prog w) A (setItem (.ref B) (.int (-1) tt) y) Q E s := by
  have hp : 0 < ys.length := List.length_pos_iff.mpr hz
  refine ki_setNeg (its := ys.toArray) (j := ys.length - 1) (q := ys.dropLast ++ [y]) F N (by decide) (by decide) ?_ ?_ (Upd.head hB) h
  · rw [List.size_toArray]
    have := PySem.seqIndex_neg (k := -1) (n := ys.length) (by decide) (by omega)
    rw [this]
    congr 1
    omega
  · have key : ∀ (l : List Value) (j : Nat), j < l.length → ki_setL l j y = some (l.set j y) := by
      intro l
      induction l with
      | nil => intro j h; cases h
      | cons a r ih =>
        intro j h
        cases j with
        | zero => rfl
        | succ j =>
          rw [ki_setL, ih j (by simpa using h)]
          rfl
    rw [List.toList_toArray, key _ _ (by omega)]
    congr 1
    have e : ys = ys.dropLast ++ [ys.getLast hz] := (List.dropLast_concat_getLast hz).symm
    have e2 : ys.dropLast.length = ys.length - 1 := List.length_dropLast ..
    conv => lhs; rw [e]
    rw [← e] 
    conv => lhs; arg 1; rw [e]
    rw [← e2, List.set_append_right _ _ (Nat.le_refl _)]
    simp

/-- xs[-1] -/
theorem get_last {value slice : PySem.Expr} {l : Addr} {ys : List Value} {nn : Nat} {zs : List Str} {k : Nat} {tt : Tok} {Q : Value → Shared → Prop} (N : News h₀ L s.heap news) (hm : (l, W.listOf ys.toArray nn) ∈ news) (hi : StrsAre ys zs) (hk : zs.length = k + 1)
    (h : ∀ t, Q (.str (zs.getD k Str.empty) t) s)
    (hs : subscripted slice false (.ref l) (.int (-1) tt) = operate [.ref l, .int (-1) tt] (getItem (.ref l) (.int (-1) tt)) := by with_unfolding_all rfl) :
    wpAny (model prog w) A (subscriptTail value slice (.ref l) (.int (-1) tt)) Q E s := by
  have hl : s.heap.IsList l ys.toArray := ⟨_, (N _ hm).1, rfl, _, rfl⟩
  obtain ⟨t, e⟩ := strs_get hi k (by omega)
  have e1 : ys.toArray.size = k + 1 := by rw [List.size_toArray, strs_len hi, hk]
  refine tail_any hl.typeIs slot_list_getitem.lookup (wpAny_getItem_list_neg hl (by decide) (by rw [e1]; omega) (by decide) ?_ (h t)) hs
  rw [e1]
  have : ((-1 : Int) + ((k + 1 : Nat) : Int)).toNat = k := by omega
  rw [this]
  simpa using e
end
end Mine
end

-- Loop3
section
open PySem PySem.W PyProof.Rows PySem.Calls
set_option Elab.async false
set_option maxRecDepth 100000
set_option maxHeartbeats 4000000
namespace Mine

theorem know_for {m₁ f : Str → Option Value} {x : Str} {v : Value} (e : m₁ = f) : (fun y => if y = x then some v else m₁ y) = fun y => if y = x then some v else f y := by rw [e]

theorem inc_le (d : Int) (p : List Nat) : PL.inc d p ≤ 1 := by
  unfold PL.inc
  split
  · exact Nat.le_refl _
  · split
    · exact Nat.le_refl _
    · exact Nat.zero_le _

/-! the loop over the text's signs -/
def MarksJ (text : List Nat) (Mk Ln Lr : Addr) (rest : List (Addr × Obj)) (i : Nat) (m₁ : Str → Option Value) (nx : List (Addr × Obj)) : Prop :=
  ∃ ys nn, StrsAre ys (((text.take i).foldl markStep []).map S) ∧ nx = (Mk, W.listOf ys.toArray nn) :: rest ∧ m₁ (Str.ofString "marks") = some (.ref Mk) ∧ m₁ (Str.ofString "names") = some (.ref Ln) ∧ m₁ (Str.ofString "run") = some (.ref Lr)
def MarksEnd (h₀ : Heap) (L Mk Ln Lr : Addr) (rest : List (Addr × Obj)) (ms : List (List Nat)) (s : Shared) (f : Flow) (s₂ : Shared) : Prop :=
  f = .next ∧ ∃ (h' : Heap) (tk' : Nat) (m₂ : Str → Option Value) (ys : List Value) (nn : Nat), s₂ = { s with heap := h', toks := tk' } ∧ Fr h₀ L h' m₂ ∧ News h₀ L h' ((Mk, W.listOf ys.toArray nn) :: rest) ∧ StrsAre ys (ms.map S) ∧
    m₂ (Str.ofString "marks") = some (.ref Mk) ∧ m₂ (Str.ofString "names") = some (.ref Ln) ∧ m₂ (Str.ofString "run") = some (.ref Lr)
theorem marksEnd_of {h₀ h' : Heap} {L Mk Ln Lr : Addr} {rest : List (Addr × Obj)} {ms : List (List Nat)} {s : Shared} {tk' nn : Nat} {m₂ : Str → Option Value} {ys : List Value} (F : Fr h₀ L h' m₂) (N : News h₀ L h' ((Mk, W.listOf ys.toArray nn) :: rest)) (hS : StrsAre ys (ms.map S))
    (h1 : m₂ (Str.ofString "marks") = some (.ref Mk)) (h2 : m₂ (Str.ofString "names") = some (.ref Ln)) (h3 : m₂ (Str.ofString "run") = some (.ref Lr)) : MarksEnd h₀ L Mk Ln Lr rest ms s .next { s with heap := h', toks := tk' } :=
  ⟨rfl, h', tk', m₂, ys, nn, rfl, F, N, hS, h1, h2, h3⟩

theorem markStep_len (ms : List (List Nat)) (c : Nat) : (markStep ms c).length ≤ ms.length + 1 := by
  unfold markStep
  split <;> simp <;> omega
theorem marks_len : ∀ (t : List Nat) (ms : List (List Nat)), (t.foldl markStep ms).length ≤ ms.length + t.length
  | [], ms => by simp
  | c :: r, ms => by
    rw [List.foldl_cons, List.length_cons]
    have := marks_len r (markStep ms c)
    have := markStep_len ms c
    omega
theorem markStep_two {ms : List (List Nat)} (h : ∀ m ∈ ms, m.length ≤ 2) (c : Nat) : ∀ m ∈ markStep ms c, m.length ≤ 2 := by
  intro m hm
  unfold markStep at hm
  split at hm
  · rcases List.mem_append.mp hm with hm | hm
    · exact h m ((List.dropLast_sublist ms).subset hm)
    · rw [List.mem_singleton.mp hm]; decide
  · rcases List.mem_append.mp hm with hm | hm
    · exact h m hm
    · rw [List.mem_singleton.mp hm]; simp
theorem marks_two : ∀ (t : List Nat) (ms : List (List Nat)), (∀ m ∈ ms, m.length ≤ 2) → ∀ m ∈ t.foldl markStep ms, m.length ≤ 2
  | [], _, h => h
  | c :: r, ms, h => marks_two r (markStep ms c) (markStep_two h c)

section
variable {prog : Program} {w : World} {A : Around} {E : Value → Shared → Prop} {s : Shared} {env : Env} {h₀ : Heap} {body : List Stmt} {Q : Flow → Shared → Prop}
theorem marks_loop {text : List Nat} {Mk Ln Lr : Addr} {rest : List (Addr × Obj)} {t : Tok} {m₀ : Str → Option Value} {k0 : Nat}
    (hh : A.handled = none) (F : Fr h₀ env.locals s.heap m₀) (N : News h₀ env.locals s.heap ((Mk, W.listOf #[] k0) :: rest)) (hB : ∀ p ∈ rest, p.1 ≠ Mk)
    (hma : m₀ (Str.ofString "marks") = some (.ref Mk)) (hna : m₀ (Str.ofString "names") = some (.ref Ln)) (hru : m₀ (Str.ofString "run") = some (.ref Lr))
    (turn : ∀ (i c : Nat) (tt : Tok) (ms : List (List Nat)) (ys : List Value) (nn : Nat) (m₁ : Str → Option Value) (h : Heap) (tk : Nat) (I : Addr) (oI : Obj), i < text.length → ms.length ≤ i → StrsAre ys (ms.map S) → (∀ p ∈ rest ++ [(I, oI)], p.1 ≠ Mk) →
      Fr h₀ env.locals h (fun y => if y = Str.ofString "sign" then some (.str ⟨#[c]⟩ tt) else if y = Str.ofString "marks" then some (.ref Mk) else if y = Str.ofString "names" then some (.ref Ln) else if y = Str.ofString "run" then some (.ref Lr) else m₁ y) →
      News h₀ env.locals h ((Mk, W.listOf ys.toArray nn) :: (rest ++ [(I, oI)])) →
      wpAny (model prog w) A (execs body env) (MarksEnd h₀ env.locals Mk Ln Lr (rest ++ [(I, oI)]) (markStep ms c) s) E { s with heap := h, toks := tk })
    (done : ∀ (ys : List Value) (nn : Nat) (m₁ : Str → Option Value) (h : Heap) (tk : Nat), StrsAre ys ((marksF text).map S) →
      Fr h₀ env.locals h (fun y => if y = Str.ofString "marks" then some (.ref Mk) else if y = Str.ofString "names" then some (.ref Ln) else if y = Str.ofString "run" then some (.ref Lr) else m₁ y) →
      News h₀ env.locals h ((Mk, W.listOf ys.toArray nn) :: rest) → Q .next { s with heap := h, toks := tk }) :
    wpAny (model prog w) A (pyIter (.str ⟨text.toArray⟩ t)) (fun it s₂ => LoopAtV prog w A h₀ env (Str.ofString "sign") body Q E it s₂) E s := by
  refine for_str (l := text) (MarksJ text Mk Ln Lr rest) hh F N ⟨[], k0, .nil, rfl, hma, hna, hru⟩ (fun i c tt m₁ news₁ h tk oI hc hJ hne F' N' => ?_) (fun m₁ nx h tk hJ F' N' => ?_)
  · obtain ⟨ys, nn, hS, rfl, e1, e2, e3⟩ := hJ
    have hi : i < text.length := (List.getElem?_eq_some_iff.mp hc).1
    have hl : ((text.take i).foldl markStep []).length ≤ i := by
      have := marks_len (text.take i) []
      rw [List.length_take] at this
      simp only [List.length_nil] at this
      omega
    rw [know_for (know_cons e1 (know_cons e2 (know_cons e3 (rfl : m₁ = m₁))))] at F'
    refine wpAny_mono (turn i c tt _ ys nn m₁ h tk _ oI hi hl hS (fun p hp => ?_) F' N') (fun f s₂ hq => ?_) fun _ _ e => e
    · rcases List.mem_append.mp hp with hp | hp
      · exact hB p hp
      · rw [List.mem_singleton.mp hp]
        exact Ne.symm (hne _ (List.mem_cons_self ..))
    · obtain ⟨rfl, h', tk', m₂, ys', nn', e, F2, N2, hS2, g1, g2, g3⟩ := hq
      refine ⟨rfl, h', tk', m₂, _, e, F2, N2, ?_, ys', nn', ?_, rfl, g1, g2, g3⟩
      · intro q hq
        rcases List.mem_cons.mp hq with rfl | hq
        · exact hne (Mk, W.listOf ys.toArray nn) (List.mem_cons_self ..)
        · exact hne _ (List.mem_cons_of_mem _ hq)
      · rw [List.take_add_one, hc, List.foldl_append]
        exact hS2
  · obtain ⟨ys, nn, hS, rfl, e1, e2, e3⟩ := hJ
    rw [List.take_length] at hS
    rw [know_cons e1 (know_cons e2 (know_cons e3 (rfl : m₁ = m₁)))] at F'
    exact done ys nn m₁ h tk hS F' N'
end

/-! the loop over the marks -/
def ToldJ (run : List Int) (marks : List (List Nat)) (Ln Lr : Addr) (rest : List (Addr × Obj)) (i : Nat) (m₁ : Str → Option Value) (nx : List (Addr × Obj)) : Prop :=
  ∃ Ah zs nn t, StrsAre zs (((marks.take i).foldl (toldS run) ([], front)).2.map S) ∧ nx = (Ah, W.listOf zs.toArray nn) :: rest ∧ m₁ (Str.ofString "told") = some (.str (S ((marks.take i).foldl (toldS run) ([], front)).1) t) ∧ m₁ (Str.ofString "ahead") = some (.ref Ah) ∧
    m₁ (Str.ofString "names") = some (.ref Ln) ∧ m₁ (Str.ofString "run") = some (.ref Lr)
def ToldEnd (h₀ : Heap) (L Ln Lr I : Addr) (rest : List (Addr × Obj)) (st : List Nat × List (List Nat)) (s : Shared) (f : Flow) (s₂ : Shared) : Prop :=
  f = .next ∧ ∃ (h' : Heap) (tk' : Nat) (m₂ : Str → Option Value) (Ah : Addr) (zs : List Value) (nn : Nat) (t : Tok), s₂ = { s with heap := h', toks := tk' } ∧ Fr h₀ L h' m₂ ∧ News h₀ L h' ((Ah, W.listOf zs.toArray nn) :: rest) ∧ Ah ≠ I ∧ StrsAre zs (st.2.map S) ∧
    m₂ (Str.ofString "told") = some (.str (S st.1) t) ∧ m₂ (Str.ofString "ahead") = some (.ref Ah) ∧ m₂ (Str.ofString "names") = some (.ref Ln) ∧ m₂ (Str.ofString "run") = some (.ref Lr)
theorem toldEnd_of {h₀ h' : Heap} {L Ln Lr I Ah : Addr} {rest : List (Addr × Obj)} {st : List Nat × List (List Nat)} {s : Shared} {tk' nn : Nat} {m₂ : Str → Option Value} {zs : List Value} {t : Tok} (F : Fr h₀ L h' m₂) (N : News h₀ L h' ((Ah, W.listOf zs.toArray nn) :: rest)) (hne : Ah ≠ I) (hS : StrsAre zs (st.2.map S))
    (h1 : m₂ (Str.ofString "told") = some (.str (S st.1) t)) (h2 : m₂ (Str.ofString "ahead") = some (.ref Ah)) (h3 : m₂ (Str.ofString "names") = some (.ref Ln)) (h4 : m₂ (Str.ofString "run") = some (.ref Lr)) : ToldEnd h₀ L Ln Lr I rest st s .next { s with heap := h', toks := tk' } :=
  ⟨rfl, h', tk', m₂, Ah, zs, nn, t, rfl, F, N, hne, hS, h1, h2, h3, h4⟩

theorem oneTold_len {run : List Int} {ahd : List (List Nat)} {m : List Nat} (hm : m.length ≤ 2) (hr : run.length = 6) : (oneTold run ahd m).length ≤ 11000 := by
  unfold oneTold
  have hb := wayN_bound run m hm hr 6 (Nat.le_refl _)
  have h2 : cntN run ahd 6 ≤ 6 := by
    have : ∀ k, cntN run ahd k ≤ k := by
      intro k
      induction k with
      | zero => exact Nat.le_refl _
      | succ k ih =>
        rw [cntN]
        have : PL.inc (run.getD k 0) (ahd.getD k []) ≤ 1 := inc_le _ _
        omega
    exact this 6
  rw [List.length_append, List.length_append]
  have h3 : (if m = [46] then List.replicate (cntN run ahd 6) 46 else []).length ≤ 6 := by split <;> simp <;> omega
  omega
theorem told_len {run : List Int} (hr : run.length = 6) : ∀ (ms : List (List Nat)) (st : List Nat × List (List Nat)), (∀ m ∈ ms, m.length ≤ 2) → (ms.foldl (toldS run) st).1.length ≤ st.1.length + 11000 * ms.length
  | [], st, _ => by simp
  | m :: r, st, h => by
    rw [List.foldl_cons, List.length_cons]
    have h1 := told_len hr r (toldS run st m) fun x hx => h x (List.mem_cons_of_mem _ hx)
    have h2 : (toldS run st m).1.length ≤ st.1.length + 11000 := by
      show (st.1 ++ oneTold run st.2 m).length ≤ _
      rw [List.length_append]
      have := oneTold_len (ahd := st.2) (h m (List.mem_cons_self ..)) hr
      omega
    omega
theorem told_ahd (run : List Int) : ∀ (ms : List (List Nat)) (st : List Nat × List (List Nat)), 6 ≤ st.2.length → st.2.length ≤ 7 → 6 ≤ (ms.foldl (toldS run) st).2.length ∧ (ms.foldl (toldS run) st).2.length ≤ 7
  | [], st, h, h' => ⟨h, h'⟩
  | m :: r, st, _, _ => by
    rw [List.foldl_cons]
    have e : (toldS run st m).2.length = 7 := wayN_len run m 6
    exact told_ahd run r _ (by omega) (by omega)

section
variable {prog : Program} {w : World} {A : Around} {E : Value → Shared → Prop} {s : Shared} {env : Env} {h₀ : Heap} {body : List Stmt} {Q : Flow → Shared → Prop}
theorem told_loop {run : List Int} {marks : List (List Nat)} {Ah Mk Ln Lr : Addr} {rest : List (Addr × Obj)} {t0 : Tok} {m₀ : Str → Option Value} {k0 mn : Nat} {zs0 ys : List Value}
    (hh : A.handled = none) (hr : run.length = 6) (hml : marks.length ≤ 12) (hm2 : ∀ m ∈ marks, m.length ≤ 2) (hmk : (Mk, W.listOf ys.toArray mn) ∈ rest) (hSm : StrsAre ys (marks.map S)) (F : Fr h₀ env.locals s.heap m₀) (N : News h₀ env.locals s.heap ((Ah, W.listOf zs0.toArray k0) :: rest))
    (hSa : StrsAre zs0 (front.map S)) (hto : m₀ (Str.ofString "told") = some (.str (S []) t0)) (hah : m₀ (Str.ofString "ahead") = some (.ref Ah)) (hna : m₀ (Str.ofString "names") = some (.ref Ln)) (hru : m₀ (Str.ofString "run") = some (.ref Lr))
    (turn : ∀ (m told : List Nat) (ahd : List (List Nat)) (Ah : Addr) (zs : List Value) (nn : Nat) (tt t1 : Tok) (m₁ : Str → Option Value) (h : Heap) (tk : Nat) (I : Addr) (oI : Obj), m.length ≤ 2 → told.length ≤ 200000 → 6 ≤ ahd.length → ahd.length ≤ 7 → StrsAre zs (ahd.map S) →
      Fr h₀ env.locals h (fun y => if y = Str.ofString "mark" then some (.str (S m) tt) else if y = Str.ofString "told" then some (.str (S told) t1) else if y = Str.ofString "ahead" then some (.ref Ah) else if y = Str.ofString "names" then some (.ref Ln) else if y = Str.ofString "run" then some (.ref Lr) else m₁ y) →
      News h₀ env.locals h ((Ah, W.listOf zs.toArray nn) :: (rest ++ [(I, oI)])) →
      wpAny (model prog w) A (execs body env) (ToldEnd h₀ env.locals Ln Lr I (rest ++ [(I, oI)]) (toldS run (told, ahd) m) s) E { s with heap := h, toks := tk })
    (done : ∀ (Ah : Addr) (zs : List Value) (nn : Nat) (t1 : Tok) (m₁ : Str → Option Value) (h : Heap) (tk : Nat),
      Fr h₀ env.locals h (fun y => if y = Str.ofString "told" then some (.str (S (marks.foldl (toldS run) ([], front)).1) t1) else m₁ y) →
      News h₀ env.locals h ((Ah, W.listOf zs.toArray nn) :: rest) → Q .next { s with heap := h, toks := tk }) :
    wpAny (model prog w) A (pyIter (.ref Mk)) (fun it s₂ => LoopAtV prog w A h₀ env (Str.ofString "mark") body Q E it s₂) E s := by
  refine for_list (l := Mk) (ys := ys) (nn := mn) (zs := marks.map S) (ToldJ run marks Ln Lr rest) (fun i m₁ nx hJ => ?_) hh hSm F N ⟨Ah, zs0, k0, t0, hSa, rfl, hto, hah, hna, hru⟩ (fun i y tt m₁ news₁ h tk oI hy hJ hne F' N' => ?_) (fun m₁ nx h tk hJ F' N' => ?_)
  · obtain ⟨Ah, zs, nn, t, _, rfl, _⟩ := hJ
    exact List.mem_cons_of_mem _ hmk
  · obtain ⟨Ah, zs, nn, t1, hS, rfl, e1, e2, e3, e4⟩ := hJ
    rw [List.getElem?_map] at hy
    cases hm : marks[i]? with
    | none => rw [hm] at hy; cases hy
    | some m =>
      rw [hm] at hy
      have hy := (Option.some.inj hy).symm
      subst hy
      have hmem : m ∈ marks := List.mem_of_getElem? hm
      have hi : i < marks.length := (List.getElem?_eq_some_iff.mp hm).1
      rw [know_for (know_cons e1 (know_cons e2 (know_cons e3 (know_cons e4 (rfl : m₁ = m₁)))))] at F'
      have hA := told_ahd run (marks.take i) ([], front) (by decide) (by decide)
      have hT := told_len hr (marks.take i) ([], front) fun x hx => hm2 x (List.mem_of_mem_take hx)
      rw [List.length_take] at hT
      simp only [List.length_nil] at hT
      refine wpAny_mono (turn m _ _ Ah zs nn tt t1 m₁ h tk _ oI (hm2 m hmem) (by omega) hA.1 hA.2 hS F' N') (fun f s₂ hq => ?_) fun _ _ e => e
      obtain ⟨rfl, h', tk', m₂, Ah', zs', nn', t', e, F2, N2, hI, hS2, g1, g2, g3, g4⟩ := hq
      refine ⟨rfl, h', tk', m₂, _, e, F2, N2, ?_, Ah', zs', nn', t', ?_, rfl, ?_, g2, g3, g4⟩
      · intro q hq
        rcases List.mem_cons.mp hq with rfl | hq
        · exact hI
        · exact hne _ (List.mem_cons_of_mem _ hq)
      · rw [List.take_add_one, hm, List.foldl_append]
        exact hS2
      · rw [List.take_add_one, hm, List.foldl_append]
        exact g1
  · obtain ⟨Ah, zs, nn, t1, hS, rfl, e1, e2, e3, e4⟩ := hJ
    rw [List.length_map, List.take_length] at e1
    rw [know_cons e1 (rfl : m₁ = m₁)] at F'
    exact done Ah zs nn t1 m₁ h tk F' N'
end

/-! the loop over the hands, at a dot -/
def DotsJ (run : List Int) (ahd : List (List Nat)) (told sp : List Nat) (ts : Tok) (Ah B Ln Lr : Addr) (rest : List (Addr × Obj)) (k : Nat) (m₁ : Str → Option Value) (nx : List (Addr × Obj)) : Prop :=
  nx = rest ∧ ∃ t, m₁ (Str.ofString "told") = some (.str (S (told ++ List.replicate (cntN run ahd k) 46)) t) ∧ m₁ (Str.ofString "ahead") = some (.ref Ah) ∧ m₁ (Str.ofString "names") = some (.ref Ln) ∧ m₁ (Str.ofString "run") = some (.ref Lr) ∧
    m₁ (Str.ofString "spelled") = some (.str (S sp) ts) ∧ m₁ (Str.ofString "bare") = some (.ref B)
def DotsEnd (h₀ : Heap) (L : Addr) (told sp : List Nat) (ts : Tok) (Ah B Ln Lr : Addr) (rest : List (Addr × Obj)) (s : Shared) (f : Flow) (s₂ : Shared) : Prop :=
  f = .next ∧ ∃ (h' : Heap) (tk' : Nat) (m₂ : Str → Option Value) (t : Tok), s₂ = { s with heap := h', toks := tk' } ∧ Fr h₀ L h' m₂ ∧ News h₀ L h' rest ∧
    m₂ (Str.ofString "told") = some (.str (S told) t) ∧ m₂ (Str.ofString "ahead") = some (.ref Ah) ∧ m₂ (Str.ofString "names") = some (.ref Ln) ∧ m₂ (Str.ofString "run") = some (.ref Lr) ∧
    m₂ (Str.ofString "spelled") = some (.str (S sp) ts) ∧ m₂ (Str.ofString "bare") = some (.ref B)
theorem dotsEnd_of {h₀ h' : Heap} {L : Addr} {told told' sp : List Nat} {ts t : Tok} {Ah B Ln Lr : Addr} {rest : List (Addr × Obj)} {s : Shared} {tk' : Nat} {m₂ : Str → Option Value} (F : Fr h₀ L h' m₂) (N : News h₀ L h' rest) (e : told = told')
    (h1 : m₂ (Str.ofString "told") = some (.str (S told') t)) (h2 : m₂ (Str.ofString "ahead") = some (.ref Ah)) (h3 : m₂ (Str.ofString "names") = some (.ref Ln)) (h4 : m₂ (Str.ofString "run") = some (.ref Lr))
    (h5 : m₂ (Str.ofString "spelled") = some (.str (S sp) ts)) (h6 : m₂ (Str.ofString "bare") = some (.ref B)) : DotsEnd h₀ L told sp ts Ah B Ln Lr rest s .next { s with heap := h', toks := tk' } := by
  subst e
  exact ⟨rfl, h', tk', m₂, t, rfl, F, N, h1, h2, h3, h4, h5, h6⟩
theorem cntN_le (run : List Int) (ahd : List (List Nat)) : ∀ k, cntN run ahd k ≤ k
  | 0 => Nat.le_refl _
  | k + 1 => by
    rw [cntN]
    have := cntN_le run ahd k
    have : PL.inc (run.getD k 0) (ahd.getD k []) ≤ 1 := inc_le _ _
    omega

section
variable {prog : Program} {w : World} {A : Around} {E : Value → Shared → Prop} {s : Shared} {env : Env} {h₀ : Heap} {body : List Stmt} {Q : Flow → Shared → Prop}
theorem dots_loop {run : List Int} {ahd : List (List Nat)} {told sp : List Nat} {Ah B Ln Lr r : Addr} {rest : List (Addr × Obj)} {t u v t0 ts : Tok} {m₀ : Str → Option Value}
    (hh : A.handled = none) (hr : IsRange s.heap r 0 6 1 t u v) (ht : told.length ≤ 200000) (F : Fr h₀ env.locals s.heap m₀) (N : News h₀ env.locals s.heap rest)
    (hto : m₀ (Str.ofString "told") = some (.str (S told) t0)) (hah : m₀ (Str.ofString "ahead") = some (.ref Ah)) (hna : m₀ (Str.ofString "names") = some (.ref Ln)) (hru : m₀ (Str.ofString "run") = some (.ref Lr))
    (hsp : m₀ (Str.ofString "spelled") = some (.str (S sp) ts)) (hba : m₀ (Str.ofString "bare") = some (.ref B))
    (turn : ∀ (k : Nat) (told : List Nat) (tt t1 : Tok) (m₁ : Str → Option Value) (h : Heap) (tk : Nat) (I : Addr) (oI : Obj), k < 6 → told.length ≤ 300000 →
      Fr h₀ env.locals h (fun y => if y = Str.ofString "k" then some (.int (k : Int) tt) else if y = Str.ofString "told" then some (.str (S told) t1) else if y = Str.ofString "ahead" then some (.ref Ah) else if y = Str.ofString "names" then some (.ref Ln) else if y = Str.ofString "run" then some (.ref Lr) else
        if y = Str.ofString "spelled" then some (.str (S sp) ts) else if y = Str.ofString "bare" then some (.ref B) else m₁ y) →
      News h₀ env.locals h (rest ++ [(I, oI)]) →
      wpAny (model prog w) A (execs body env) (DotsEnd h₀ env.locals (told ++ List.replicate (PL.inc (run.getD k 0) (ahd.getD k [])) 46) sp ts Ah B Ln Lr (rest ++ [(I, oI)]) s) E { s with heap := h, toks := tk })
    (done : ∀ (t1 : Tok) (m₁ : Str → Option Value) (h : Heap) (tk : Nat),
      Fr h₀ env.locals h (fun y => if y = Str.ofString "told" then some (.str (S (told ++ List.replicate (cntN run ahd 6) 46)) t1) else if y = Str.ofString "ahead" then some (.ref Ah) else if y = Str.ofString "names" then some (.ref Ln) else if y = Str.ofString "run" then some (.ref Lr) else
        if y = Str.ofString "spelled" then some (.str (S sp) ts) else if y = Str.ofString "bare" then some (.ref B) else m₁ y) →
      News h₀ env.locals h rest → Q .next { s with heap := h, toks := tk }) :
    wpAny (model prog w) A (pyIter (.ref r)) (fun it s₂ => LoopAtV prog w A h₀ env (Str.ofString "k") body Q E it s₂) E s := by
  refine for_range (n := 6) (DotsJ run ahd told sp ts Ah B Ln Lr rest) hh hr (by decide +kernel) (by decide +kernel) F N ⟨rfl, t0, by simpa [cntN] using hto, hah, hna, hru, hsp, hba⟩ (fun k tt m₁ news₁ h tk oI hk hJ hne F' N' => ?_) (fun m₁ nx h tk hJ F' N' => ?_)
  · obtain ⟨rfl, t1, e1, e2, e3, e4, e5, e6⟩ := hJ
    rw [know_for (know_cons e1 (know_cons e2 (know_cons e3 (know_cons e4 (know_cons e5 (know_cons e6 (rfl : m₁ = m₁)))))))] at F'
    have hc := cntN_le run ahd k
    refine wpAny_mono (turn k _ tt t1 m₁ h tk _ oI hk (by rw [List.length_append, List.length_replicate]; omega) F' N') (fun f s₂ hq => ?_) fun _ _ e => e
    obtain ⟨rfl, h', tk', m₂, t', e, F2, N2, g1, g2, g3, g4, g5, g6⟩ := hq
    refine ⟨rfl, h', tk', m₂, _, e, F2, N2, hne, rfl, t', ?_, g2, g3, g4, g5, g6⟩
    rw [cntN, ← List.replicate_append_replicate, ← List.append_assoc]
    exact g1
  · obtain ⟨rfl, t1, e1, e2, e3, e4, e5, e6⟩ := hJ
    rw [know_cons e1 (know_cons e2 (know_cons e3 (know_cons e4 (know_cons e5 (know_cons e6 (rfl : m₁ = m₁))))))] at F'
    exact done t1 m₁ h tk F' N'
end
end Mine
end

-- C140
section
open PySem PySem.W PyProof.Rows PyProof.V PySem.Spec
set_option Elab.async false
set_option maxRecDepth 100000
set_option maxHeartbeats 8000000
namespace Mine

theorem use_c116 {w : World} {s₀ : Shared} {mg mb : Str → Option Value} {news : List (Addr × Obj)} {dp un : Nat} {gd : Option (List Code)} {cn : Str} {cs : Scope} {a : Addr} {ccd : Value} {cl : List (Str × Addr)} {outer : List Env} {A₀ : Around} {base h₀ : Heap} {L : Addr} {m : Str → Option Value} {s : Shared} {Q E : Value → Shared → Prop}
    (B : Below A₀ base outer h₀) (F : Fr h₀ L s.heap m) (X : (hd.heap_39 w.params).In h₀) (N : News h₀ L s.heap news) (T : Top hd.view_39 (looseW hd.view_39 [Str.ofString "_twin_re_1", Str.ofString "_twin_re_2", Str.ofString "_twin_re_3"]) (ExcName.means s₀.heap) mg mb h₀) (hk : cs.kind = .function)
    (hd' : dp + 1 < recursionLimit) (hu : un + 8 < cLine) (hret : NamesRet w h₀ L m news s Q) :
    wpAny (model Challenge.rw_pe0100_01.row.prog w) (ktrTop dp un gd cn cs L a ccd cl outer) (call (.ref 116) []) Q E s :=
  c116 w s₀ mg mb news dp un gd cn cs a ccd cl outer A₀ base h₀ L m s Q E B F X N T hk hd' hu hret


theorem eq_S {A : Around} {E : Value → Shared → Prop} {s : Shared} {x y : Str} {a b : List Nat} {t u : Tok} {Q : Value → Shared → Prop} {prog : Program} {w : World} (hx : x = S a) (hy : y = S b) (h : Q (.bool (decide (a = b))) s) : wpAny (model prog w) A (compareOp .Eq (.str x t) (.str y u)) Q E s := by
  subst hx hy
  refine SeqAt.RcAt.str_str (S a) t (S b) u prog w E Q ?_
  have e : (S a == S b) = decide (a = b) := by
    by_cases h : a = b
    · subst h; simp
    · have h2 : ¬ S a = S b := fun q => h (S_inj q)
      simp [h, h2]
  rw [e]
  exact h
theorem last_iff (ms : List (List Nat)) : List.drop ((List.map S ms).length - 1) (List.map S ms) = [Str.ofString "\r"] ↔ ms.getLast? = some [13] := by
  rw [lit_cr]
  rcases List.eq_nil_or_concat ms with rfl | ⟨l, b, rfl⟩
  · simp
  · rw [List.concat_eq_append, List.map_append, List.length_append, List.length_map, List.map_cons, List.map_nil, List.length_singleton, Nat.add_sub_cancel]
    have : List.drop l.length (List.map S l ++ [S b]) = [S b] := by
      rw [List.drop_append_of_le_length (by simp)]
      simp
    rw [this, List.getLast?_concat]
    constructor
    · intro h
      rw [S_inj (List.cons.inj h).1]
    · intro h
      rw [Option.some.inj h]
theorem strs_dropLast {ys : List Value} {zs : List Str} (h : StrsAre ys zs) : StrsAre ys.dropLast zs.dropLast := by
  rw [List.dropLast_eq_take, List.dropLast_eq_take, strs_len h]
  exact h.take' _
theorem strs_step1 {ys : List Value} {ms : List (List Nat)} {c : Nat} {t : Tok} (h : StrsAre ys (ms.map S)) (hc : c = 10) (hl : ms.getLast? = some [13]) : StrsAre (ys.dropLast ++ [.str (Str.ofString "\r\n") t]) ((markStep ms c).map S) := by
  unfold markStep
  rw [if_pos ⟨hc, hl⟩, List.map_append, List.map_dropLast, lit_crlf]
  exact strs_snoc (strs_dropLast h)
theorem strs_step2 {ys : List Value} {ms : List (List Nat)} {c : Nat} {t : Tok} (h : StrsAre ys (ms.map S)) (hn : ¬ (c = 10 ∧ ms.getLast? = some [13])) : StrsAre (ys ++ [.str ⟨#[c]⟩ t]) ((markStep ms c).map S) := by
  unfold markStep
  rw [if_neg hn, List.map_append]
  exact strs_snoc h
theorem lit_dot : Str.ofString "." = S [46] := by decide +kernel
theorem news_sub {h₀ h : Heap} {L : Addr} {sub all : List (Addr × Obj)} (N : News h₀ L h all) (hs : ∀ p ∈ sub, p ∈ all) : News h₀ L h sub := fun p hp => N p (hs p hp)
theorem use_c133 {mk : List Nat} {t : Tok} {Lr Ln d0 d1 d2 d3 d4 : Addr} {o0 o1 o2 o3 o4 : Obj} {rv : List Value} {rn : Nat} {run : List Int} {w : World} {s₀ : Shared} {mg mb : Str → Option Value} {all : List (Addr × Obj)} {dp un : Nat} {gd : Option (List Code)} {cn : Str} {cs : Scope} {a : Addr} {ccd : Value} {cl : List (Str × Addr)} {outer : List Env} {A₀ : Around} {base h₀ : Heap} {L : Addr} {m : Str → Option Value} {s : Shared} {Q E : Value → Shared → Prop}
    (B : Below A₀ base outer h₀) (F : Fr h₀ L s.heap m) (X : (hd.heap_39 w.params).In h₀) (N : News h₀ L s.heap all) (T : Top hd.view_39 (looseW hd.view_39 [Str.ofString "_twin_re_1", Str.ofString "_twin_re_2", Str.ofString "_twin_re_3"]) (ExcName.means s₀.heap) mg mb h₀) (hk : cs.kind = .function)
    (hn0 : NameObj Challenge.rw_pe0100_01.row.prog w nt0 d0 o0) (hn1 : NameObj Challenge.rw_pe0100_01.row.prog w nt1 d1 o1) (hn2 : NameObj Challenge.rw_pe0100_01.row.prog w nt2 d2 o2) (hn3 : NameObj Challenge.rw_pe0100_01.row.prog w nt3 d3 o3) (hn4 : NameObj Challenge.rw_pe0100_01.row.prog w nt4 d4 o4)
    (hsub : ∀ p ∈ [(Lr, W.listOf rv.toArray rn), (Ln, W.listOf #[.ref d0, .ref d1, .ref d2, .ref d3, .ref d4] 0), (d4, o4), (d3, o3), (d2, o2), (d1, o1), (d0, o0)], p ∈ all)
    (hIA : IntsAre rv run) (hRL : run.length = 6) (hR8 : ∀ r ∈ run, 0 ≤ r ∧ r ≤ 8) (hmk : mk.length ≤ 2) (hd' : dp + 3 < recursionLimit) (hu : un + 24 < cLine)
    (hret : ∀ (T B : Addr) (ys : List Value) (nn c : Nat) (t : Tok) (h' : Heap) (tk' : Nat), Fr h₀ L h' m →
      News h₀ L h' ((T, ({ cls := .type "tuple", data := .seq #[.str (S (wayN run mk 6).1) t, .ref B] c } : Obj)) :: (B, W.listOf ys.toArray nn) :: all) → StrsAre ys ((wayN run mk 6).2.map S) → AllLt B all → AllLt T all →
      Q (.ref T) { s with heap := h', toks := tk' }) :
    wpAny (model Challenge.rw_pe0100_01.row.prog w) (ktrTop dp un gd cn cs L a ccd cl outer) (call (.ref 133) [.str (S mk) t, .ref Lr, .ref Ln]) Q E s := by
  refine c133 mk t Lr Ln d0 d1 d2 d3 d4 o0 o1 o2 o3 o4 rv rn run w s₀ mg mb all dp un gd cn cs a ccd cl outer A₀ base h₀ L m s Q E B F X (news_sub N fun p hp => ?_) T hk hn0 hn1 hn2 hn3 hn4 hIA hRL hR8 hmk hd' hu ?_
  · rcases List.mem_append.mp (show p ∈ [(Lr, W.listOf rv.toArray rn), (Ln, W.listOf #[.ref d0, .ref d1, .ref d2, .ref d3, .ref d4] 0), (d4, o4), (d3, o3), (d2, o2), (d1, o1), (d0, o0)] ++ all from hp) with hp | hp
    · exact hsub p hp
    · exact hp
  · intro T B ys nn c t h' tk' F' N' hS l1 l2
    refine hret T B ys nn c t h' tk' F' (news_sub N' fun p hp => ?_) hS l1.2.2.2.2.2.2.2 l2.2.2.2.2.2.2.2
    rcases List.mem_cons.mp hp with rfl | hp
    · exact List.mem_cons_self ..
    · rcases List.mem_cons.mp hp with rfl | hp
      · exact List.mem_cons_of_mem _ (List.mem_cons_self ..)
      · exact List.mem_append_right [_, _, _, _, _, _, _, _, _] hp

section
variable {prog : Program} {w : World} {A : Around} {E : Value → Shared → Prop} {s : Shared} {h₀ : Heap} {L l : Addr} {m : Str → Option Value} {news : List (Addr × Obj)} {v : Value} {u : Tok} {k n : Nat} {Q : Value → Shared → Prop}
theorem mul6 (hn : n = 6) (F : Fr h₀ L s.heap m) (N : News h₀ L s.heap news) (hm : (l, W.listOf #[v] k) ∈ news)
    (h : ∀ D h', Fr h₀ L h' m → News h₀ L h' ((D, W.listOf (List.replicate 6 v).toArray 0) :: news) → (∀ p ∈ news, p.1 < D) → Q (.ref D) { s with heap := h' }) : wpAny (model prog w) A (binaryOp .Mult (.ref l) (.int (n : Int) u)) Q E s := by
  subst hn
  exact KMa.mul (vs := [v]) (ws := List.replicate 6 v) F N ⟨_, (N _ hm).1, rfl, _, rfl⟩ (by decide) (by decide) (by simp) rfl h
theorem get_lastS {value slice : PySem.Expr} {ys : List Value} {nn : Nat} {bs : List (List Nat)} {tt : Tok} (N : News h₀ L s.heap news) (hm : (l, W.listOf ys.toArray nn) ∈ news) (hi : StrsAre ys (bs.map S)) (hk : bs.length = k + 1)
    (h : ∀ t, Q (.str (S (bs.getD k [])) t) s)
    (hs : subscripted slice false (.ref l) (.int (-1) tt) = operate [.ref l, .int (-1) tt] (getItem (.ref l) (.int (-1) tt)) := by with_unfolding_all rfl) :
    wpAny (model prog w) A (subscriptTail value slice (.ref l) (.int (-1) tt)) Q E s := by
  refine get_last (k := k) N hm hi (by rw [List.length_map, hk]) (fun t => ?_) hs
  have e : (bs.map S).getD k Str.empty = S (bs.getD k []) := by
    rw [List.getD_eq_getElem?_getD, List.getD_eq_getElem?_getD, List.getElem?_map]
    cases bs[k]? <;> rfl
  rw [e]
  exact h t
end
theorem strs_front {t : Tok} : StrsAre (List.replicate 6 (Value.str (Str.ofString "\r\n") t)) (front.map S) := by
  rw [lit_crlf]
  exact .cons _ _ (.cons _ _ (.cons _ _ (.cons _ _ (.cons _ _ (.cons _ _ .nil)))))

theorem eqS_dec (a lf : List Nat) : (S a == S lf) = decide (lf = a) := by
  by_cases h : lf = a
  · subst h; simp
  · have h2 : ¬ S a = S lf := fun q => h (S_inj q).symm
    simp [h, h2]
theorem any_dots5 (lf : List Nat) : ([Str.ofString "\r", Str.ofString "\n", Str.ofString "\r\n"].any fun x => x == S lf) = PL.isEol lf := by
  rw [lit_cr, lit_lf, lit_crlf]
  simp only [List.any_cons, List.any_nil, Bool.or_false, eqS_dec]
  unfold PL.isEol
  rw [Bool.eq_iff_iff]
  simp [or_assoc]
theorem any_dots7 (lf : List Nat) : ([Str.ofString "\n", Str.ofString "\r\n"].any fun x => x == S lf) = PL.isRow lf := by
  rw [lit_lf, lit_crlf]
  simp only [List.any_cons, List.any_nil, Bool.or_false, eqS_dec]
  unfold PL.isRow
  rw [Bool.eq_iff_iff]
  simp
theorem inc5_t {lf : List Nat} (h : ([Str.ofString "\r", Str.ofString "\n", Str.ofString "\r\n"].any fun x => x == S lf) = true) : PL.inc 5 lf = 1 := by
  rw [any_dots5] at h
  unfold PL.inc
  rw [if_pos ⟨rfl, h⟩]
theorem inc5_f {lf : List Nat} (h : ([Str.ofString "\r", Str.ofString "\n", Str.ofString "\r\n"].any fun x => x == S lf) = false) : PL.inc 5 lf = 0 := by
  rw [any_dots5] at h
  unfold PL.inc
  rw [h, if_neg (by simp), if_neg (by simp)]
theorem inc7_t {lf : List Nat} (h : ([Str.ofString "\n", Str.ofString "\r\n"].any fun x => x == S lf) = true) : PL.inc 7 lf = 1 := by
  rw [any_dots7] at h
  unfold PL.inc
  rw [h, if_neg (by simp), if_pos ⟨rfl, rfl⟩]
theorem inc7_f {lf : List Nat} (h : ([Str.ofString "\n", Str.ofString "\r\n"].any fun x => x == S lf) = false) : PL.inc 7 lf = 0 := by
  rw [any_dots7] at h
  unfold PL.inc
  rw [h, if_neg (by simp), if_neg (by simp)]
theorem inc_no {r : Int} {lf : List Nat} (h5 : r ≠ 5) (h7 : r ≠ 7) : PL.inc r lf = 0 := by
  unfold PL.inc
  rw [if_neg fun q => h5 q.1, if_neg fun q => h7 q.1]
theorem toldS_dot (run : List Int) (told m : List Nat) (ahd : List (List Nat)) (h : m = [46]) : toldS run (told, ahd) m = (told ++ List.replicate (cntN run ahd 6) 46 ++ ((wayN run m 6).1 ++ (wayN run m 6).2.getD 6 []), (wayN run m 6).2) := by
  unfold toldS oneTold
  simp only [if_pos h, List.append_assoc]
theorem toldS_no (run : List Int) (told m : List Nat) (ahd : List (List Nat)) (h : ¬ m = [46]) : toldS run (told, ahd) m = (told ++ ((wayN run m 6).1 ++ (wayN run m 6).2.getD 6 []), (wayN run m 6).2) := by
  unfold toldS oneTold
  simp only [if_neg h, List.nil_append]
theorem str_at {zs : List Value} {ahd : List (List Nat)} {k : Nat} (h : StrsAre zs (ahd.map S)) (hk : k < ahd.length) : ∃ t, zs.toArray[k]? = some (.str (S (ahd.getD k [])) t) := by
  obtain ⟨t, e⟩ := strs_get h k (by rw [List.length_map]; exact hk)
  refine ⟨t, ?_⟩
  have e2 : (ahd.map S).getD k Str.empty = S (ahd.getD k []) := by
    rw [List.getD_eq_getElem?_getD, List.getD_eq_getElem?_getD, List.getElem?_map]
    cases ahd[k]? <;> rfl
  rw [e2] at e
  simpa using e

local macro_rules | `(tactic| walk_at "exec For") => `(tactic| (k_here; refine hold_out ?_))
local macro_rules | `(tactic| walk_at "pyIter ref") => `(tactic| ((with_reducible show wpAny _ _ (pyIter (Value.ref _)) (fun it s₂ => LoopAtV _ _ _ _ _ _ _ _ _ it s₂) _ _); refine hold_out ?_))
local macro_rules | `(tactic| walk_at "pyIter str") => `(tactic| ((with_reducible show wpAny _ _ (pyIter (Value.str _ _)) (fun it s₂ => LoopAtV _ _ _ _ _ _ _ _ _ it s₂) _ _); refine hold_out ?_))
local macro_rules | `(tactic| walk_at "call ref") => `(tactic| (k_here; k_dflt (refine' use_c116 ?k1 ?k2 ?k3 ?k4 ?k5 ?kK ?kd ?ku ?_; (case k1 => k_asm); (case k2 => k_asm); (case k3 => k_asm); (case k4 => k_asm); (case k5 => k_asm); (case kK => first | exact rfl | assumption); (case kd => ktr_room); (case ku => ktr_units); k_whole); intro Ln d0 d1 d2 d3 d4 o0 o1 o2 o3 o4 h9 tk9 F9 N9 hn0 hn1 hn2 hn3 hn4; (try dsimp only); (try k_fold)))

local macro_rules | `(tactic| walk_at "subscriptTail Name Slice ref ref") => `(tactic| (k_here; k_dflt (refine' slice_last ?k1 ?k2 ?k3 ?k4 ?k5 ?_; (case k1 => k_asm); (case k2 => k_asm); (case k3 => k_mem); (case k4 => assumption); (case k5 => (rw [List.length_map]; omega)); k_whole); intro D' ws' h' F' N' l1 hI'))
local macro_rules | `(tactic| walk_at "compareOp Eq str str") => `(tactic| (k_here; k_dflt (refine' eq_S ?k1 ?k2 ?_; (case k1 => first | exact lit_one _ | exact rfl); (case k2 => first | exact lit_lf | exact lit_dot); k_whole)))
local macro_rules | `(tactic| walk_at "compareOp Eq ref ref") => `(tactic| (k_here; k_dflt (refine' eq_strsK ?k1 ?k2 ?k3 ?k4 ?k5 ?_; (case k1 => is_list); (case k2 => assumption); (case k3 => is_list); (case k4 => exact .cons _ _ .nil); (case k5 => units_room); k_whole)))
local macro_rules | `(tactic| walk_at "call builtin:list.append") => `(tactic| (k_here; refine hold_out ?_))
local macro_rules | `(tactic| walk_at "setItem ref int") => `(tactic| (k_here; refine hold_out ?_))
local macro_rules | `(tactic| walk_at "binaryOp Mult ref int") => `(tactic| (k_here; k_dflt (refine' mul6 ?k1 ?k2 ?k3 ?k4 ?_; (case k1 => assumption); (case k2 => k_asm); (case k3 => k_asm); (case k4 => k_mem); k_whole); intro D' h' F' N' l1; (try k_lt l1)))
local macro_rules | `(tactic| walk_at "call ref") => `(tactic| (k_here; k_dflt (refine' use_c133 ?k1 ?k2 ?k3 ?k4 ?k5 ?kK ?n0 ?n1 ?n2 ?n3 ?n4 ?ks ?kI ?kL ?k8 ?km ?kd ?ku ?_; (case k1 => k_asm); (case k2 => k_asm); (case k3 => k_asm); (case k4 => k_asm); (case k5 => k_asm); (case kK => first | exact rfl | assumption); (case n0 => assumption); (case n1 => assumption); (case n2 => assumption); (case n3 => assumption); (case n4 => assumption); (case ks => kcj_all); (case kI => assumption); (case kL => assumption); (case k8 => assumption); (case km => assumption); (case kd => ktr_room); (case ku => ktr_units); k_whole); intro T9 B9 ys9 nn9 c9 t9 h9 tk9 F9 N9 hS9 l1 l2; (try dsimp only); (try k_fold)))
local macro_rules | `(tactic| walk_at "subscriptTail Name UnaryOp ref int") => `(tactic| (k_here; k_dflt (refine' get_lastS (k := 6) ?k1 ?k2 ?k3 ?k4 ?_; (case k1 => k_asm); (case k2 => k_mem); (case k3 => assumption); (case k4 => exact wayN_len _ _ 6); k_whole); intro t'))
local macro_rules | `(tactic| walk_at "binaryOp Add str str") => `(tactic| (k_here; k_dflt (refine' add_S ?k1 ?k2 ?k3 ?k4 ?_; (case k1 => exact rfl); (case k2 => exact rfl); (case k3 => first | assumption | omega); (case k4 => first | assumption | omega); k_whole); intro t' k'))
local macro_rules | `(tactic| walk_at "inplaceOp Add str str") => `(tactic| (k_here; k_dflt (refine' iadd_S ?k1 ?k2 ?k3 ?k4 ?_; (case k1 => exact rfl); (case k2 => first | exact lit_dot | exact rfl); (case k3 => first | assumption | omega); (case k4 => first | assumption | omega | decide | (simp only [List.length_append]; omega)); k_whole); intro t' k'))
local macro_rules | `(tactic| walk_at "subscriptTail Name Name ref int") => `(tactic| (k_here; (with_reducible show wpAny _ _ (subscriptTail _ _ (Value.ref _) (Value.int (Nat.cast _) _)) _ _ _); k_dflt (refine' item_my ?k1 ?k2 ?k3 ?k4 ?_; (case k1 => k_asm); (case k2 => k_mem); (case k3 => assumption); (case k4 => omega); k_whole)))

theorem c140 (text : List Nat) (t : Tok) (Lr : Addr) (rv : List Value) (rn : Nat) (run : List Int) : ∀ (w : World) (s₀ : Shared) (mg mb : Str → Option Value) (news : List (Addr × Obj)) (dp un : Nat) (gd : Option (List Code)) (cn : Str) (cs : Scope) (a : Addr) (ccd : Value) (cl : List (Str × Addr)) (outer : List Env) (A₀ : Around) (base h₀ : Heap) (L : Addr) (m : Str → Option Value) (s : Shared) (Q E : Value → Shared → Prop),
    Below A₀ base outer h₀ → Fr h₀ L s.heap m → (hd.heap_39 w.params).In h₀ → News h₀ L s.heap ((Lr, W.listOf rv.toArray rn) :: news) → Top hd.view_39 (looseW hd.view_39 [Str.ofString "_twin_re_1", Str.ofString "_twin_re_2", Str.ofString "_twin_re_3"]) (ExcName.means s₀.heap) mg mb h₀ → cs.kind = .function →
    IntsAre rv run → run.length = 6 → (∀ r ∈ run, 0 ≤ r ∧ r ≤ 8) → text.length ≤ 12 →
    dp + 5 < recursionLimit → un + 40 < cLine → (∀ (t : Tok) (h' : Heap) (tk' : Nat), Fr h₀ L h' m → News h₀ L h' ((Lr, W.listOf rv.toArray rn) :: news) → Q (.str (S (toldF run text)) t) { s with heap := h', toks := tk' }) →
      wpAny (model Challenge.rw_pe0100_01.row.prog w) (ktrTop dp un gd cn cs L a ccd cl outer) (call (.ref 140) [.str (S text) t, .ref Lr]) Q E s := by
  k_fill
  intros
  rename_i hIA hRL hR8 htl _ _ hret
  refine wpAny_call ?_
  k_dflt cell_enter
  k_steps
  unfold Hold
  rename Fr _ _ _ _ => F1
  rename News _ _ _ _ => N1
  rename _ ∧ _ => hlt
  k_dflt (refine' marks_loop (text := text) rfl F1 N1 ?hB rfl rfl rfl ?turn ?done)
  case hB => refine fun p hp => Nat.ne_of_lt (kst_ltOf ?_ p hp); exact hlt
  case turn =>
    intro i c tt ms ys nn m1 h2 tk2 I oI hi hml hS hneB F2 N2
    clear F1 N1
    simp only [List.cons_append] at N2 hneB
    have hz1 : ms.length ≤ 1000 := by omega
    k_steps
    · rename [c] = [10] => hc
      rename _ = [Str.ofString "\r"] => hla
      have hla := (last_iff ms).mp hla
      have hyn : ys ≠ [] := by
        intro q
        have h0 := strs_len hS
        rw [q, List.length_map] at h0
        rw [List.length_eq_zero_iff.mp h0.symm] at hla
        cases hla
      unfold Hold
      rename Fr _ _ _ _ => F3
      rename News _ _ _ _ => N3
      k_dflt (refine' set_last F3 (drop_to (o := W.listOf ys.toArray nn) hneB N3 (by kcj_all)) hneB hyn ?_)
      intro h4 F4 N4
      k_steps
      exact marksEnd_of F4 N4 (strs_step1 hS (List.cons.inj hc).1 hla) rfl rfl rfl
    · rename [c] = [10] => hc
      rename ¬ _ = [Str.ofString "\r"] => hla
      have hla := fun q => hla ((last_iff ms).mpr q)
      unfold Hold
      rename Fr _ _ _ _ => F3
      rename News _ _ _ _ => N3
      k_dflt (refine' append_my (ys := ys) (nn := nn) F3 (drop_to (o := W.listOf ys.toArray nn) hneB N3 (by kcj_all)) hneB ?hz ?_)
      case hz => rw [strs_len hS, List.length_map]; omega
      intro h4 F4 N4
      k_steps
      exact marksEnd_of F4 N4 (strs_step2 hS fun q => hla q.2) rfl rfl rfl
    · rename ¬ [c] = [10] => hc
      unfold Hold
      k_dflt (refine' append_my (ys := ys) (nn := nn) F2 N2 hneB ?hz ?_)
      case hz => rw [strs_len hS, List.length_map]; omega
      intro h4 F4 N4
      k_steps
      exact marksEnd_of F4 N4 (strs_step2 hS fun q => hc (by rw [q.1])) rfl rfl rfl
  case done =>
    intro ys nn m1 h2 tk2 hS F2 N2
    clear F1 N1
    k_steps
    unfold Hold
    rename Fr _ _ _ _ => F3
    rename News _ _ _ _ => N3
    k_dflt (refine For_invVF F3 rfl rfl ?_)
    k_steps
    unfold Hold
    have hml : (marksF text).length ≤ 12 := by
      have := marks_len text []
      simp only [List.length_nil] at this
      unfold marksF
      omega
    have hm2 : ∀ m ∈ marksF text, m.length ≤ 2 := marks_two text [] (fun _ h => nomatch h)
    k_dflt (refine' told_loop (run := run) (marks := marksF text) (ys := ys) (mn := nn) rfl hRL hml hm2 ?hmk hS F3 N3 strs_front ?hto rfl rfl rfl ?turn2 ?done2)
    case hmk => k_mem
    case hto => rw [← lit_none]; rfl
    case turn2 =>
      intro m told ahd Ah zs nn2 tt t1 m2 h4 tk4 I oI hmk2 htol ha6 ha7 hSa F4 N4
      clear F3 N3
      simp only [List.cons_append] at N4
      have hb := wayN_bound run m hmk2 hRL 6 (Nat.le_refl _)
      have hb1 : (wayN run m 6).1.length ≤ 1000000 := by omega
      have hb2 : ((wayN run m 6).2.getD 6 []).length ≤ 1000000 := by omega
      have htol2 : told.length ≤ 1000000 := by omega
      k_steps
      · rename IsRange _ _ _ _ _ _ _ _ => hR
        rename m = [46] => hdot
        rename Fr _ _ _ _ => F5
        rename News _ _ _ _ => N5
        rename StrsAre _ (List.map S (wayN _ _ _).2) => hSB
        rw [hRL] at hR
        unfold Hold
        k_dflt (refine' dots_loop (run := run) (ahd := ahd) (told := told) (Ah := Ah) rfl hR htol F5 N5 rfl rfl rfl rfl rfl rfl ?turn3 ?done3)
        case turn3 =>
          intro k told' tt' t1' m3 h5 tk5 I2 oI2 hk htl2 F6 N6
          clear F5 N5 N4 F4
          simp only [List.cons_append] at N6
          have htl3 : told'.length ≤ 1000000 := by omega
          have hrl : k < run.length := by omega
          rename IntsAre _ _ => hIA
          obtain ⟨tr, htr⟩ := hIA.get k run[k] (by simp [hrl])
          have hrg : run.getD k 0 = run[k] := by rw [List.getD_eq_getElem?_getD, List.getElem?_eq_getElem hrl]; rfl
          have hri : rv.toArray[k]? = some (.int run[k] tr) := by simpa using htr
          obtain ⟨ta, hta⟩ := str_at hSa (show k < ahd.length by omega)
          rw [hrg]
          generalize run[k] = r at hri htr hrg ⊢
          generalize ahd.getD k [] = al at hta ⊢
          clear htr hrg
          by_cases h5 : r = 5
          · subst h5
            k_steps
            · rename (_ = true) => hany
              rename Fr _ _ _ _ => F7
              rename News _ _ _ _ => N7
              k_dflt (refine' dotsEnd_of F7 (news_sub N7 (by kcj_all)) ?e rfl rfl rfl rfl rfl rfl)
              case e => rw [inc5_t hany]; rfl
            · rename (_ = false) => hany
              rename Fr _ _ _ _ => F7
              rename News _ _ _ _ => N7
              k_dflt (refine' dotsEnd_of F7 (news_sub N7 (by kcj_all)) ?e rfl rfl rfl rfl rfl rfl)
              case e => rw [inc5_f hany]; exact List.append_nil _
          · by_cases h7 : r = 7
            · subst h7
              clear h5
              k_steps
              · rename (_ = true) => hany
                rename Fr _ _ _ _ => F7
                rename News _ _ _ _ => N7
                k_dflt (refine' dotsEnd_of F7 (news_sub N7 (by kcj_all)) ?e rfl rfl rfl rfl rfl rfl)
                case e => rw [inc7_t hany]; rfl
              · rename (_ = false) => hany
                rename Fr _ _ _ _ => F7
                rename News _ _ _ _ => N7
                k_dflt (refine' dotsEnd_of F7 (news_sub N7 (by kcj_all)) ?e rfl rfl rfl rfl rfl rfl)
                case e => rw [inc7_f hany]; exact List.append_nil _
            · k_steps
              all_goals try (first | exact absurd (by assumption) h5 | exact absurd (by assumption) h7)
              rename Fr _ _ _ _ => F7
              rename News _ _ _ _ => N7
              k_dflt (refine' dotsEnd_of F7 (news_sub N7 (by kcj_all)) ?e rfl rfl rfl rfl rfl rfl)
              case e => rw [inc_no h5 h7]; exact List.append_nil _
        case done3 =>
          intro t1' m3 h5 tk5 F6 N6
          clear F5 N5 N4 F4
          have hcn := cntN_le run ahd 6
          have htl3 : (told ++ List.replicate (cntN run ahd 6) 46).length ≤ 1000000 := by rw [List.length_append, List.length_replicate]; omega
          rw [toldS_dot run told m ahd hdot]
          generalize told ++ List.replicate (cntN run ahd 6) 46 = told2 at *
          k_steps
          rename Fr _ _ _ _ => F7
          rename News _ _ _ _ => N7
          k_dflt (refine' toldEnd_of F7 (news_sub N7 (by kcj_all)) ?hne hSB rfl rfl rfl rfl)
          case hne => exact Ne.symm (Nat.ne_of_lt (kst_ltOf (by assumption) (I, oI) (by simp)))
      · rename ¬ m = [46] => hdot
        rename Fr _ _ _ _ => F5
        rename News _ _ _ _ => N5
        rename StrsAre _ (List.map S (wayN _ _ _).2) => hSB
        rw [toldS_no run told m ahd hdot]
        k_dflt (refine' toldEnd_of F5 (news_sub N5 (by kcj_all)) ?hne hSB rfl rfl rfl rfl)
        case hne => exact Ne.symm (Nat.ne_of_lt (kst_ltOf (by assumption) (I, oI) (by simp)))
    case done2 =>
      intro Ah zs nn2 t1 m2 h4 tk4 F4 N4
      clear F3 N3
      k_steps
      exact hret _ _ _ (by assumption) (news_sub (by assumption) (by kcj_all))
end Mine
end

-- Comp3
section
open PySem PySem.W PyProof.Rows PySem.Calls
set_option Elab.async false
set_option maxRecDepth 100000
set_option maxHeartbeats 4000000
namespace Mine

theorem fr_up {h₀ h h' : Heap} {L : Addr} {m : Str → Option Value} {S : List Addr} (F : Fr h₀ L h m) (hk : ∀ b o, b ∉ S → h.get? b = some o → h'.get? b = some o) (hL : L ∉ S) (hS : ∀ x ∈ S, h₀.get? x = none) : Fr h₀ L h' m :=
  ⟨F.ns.at' fun o e => hk L o hL e, fun b o e => hk b o (fun hm => by rw [hS b hm] at e; cases e) (F.keep b o e), F.above⟩
theorem news_up {h₀ h h' : Heap} {L : Addr} {news : List (Addr × Obj)} {S : List Addr} (N : News h₀ L h news) (hk : ∀ b o, b ∉ S → h.get? b = some o → h'.get? b = some o) (off : ∀ p ∈ news, p.1 ∉ S) : News h₀ L h' news :=
  fun p hp => ⟨hk _ _ (off p hp) (N p hp).1, (N p hp).2⟩

/-- what the element's walk has to give at one pair of the enumeration -/
def EnumTurn (prog : Program) (w : World) (A : Around) (h₀ : Heap) (L : Addr) (m : Str → Option Value) (env : Env) (elt : Expr) (a b : Str) (scope : Scope) (cl : List (Str × Addr)) (items : Array Value) (news : List (Addr × Obj)) (g : Nat → Value → Prop) : Prop :=
  ∀ (i : Nat) (v : Value) (t : Tok) (I : Addr) (oI : Obj) (J : Addr) (oJ : Obj) (C : Addr) (oC : Obj) (D : Addr) (m₂ : Str → Option Value) (ys : List Value) (s₂ : Shared) (h : Heap) (tk : Nat) (E' : Value → Shared → Prop),
    items[i]? = some v → LCg.NsObj oC m₂ → m₂ a = some (.int (i : Int) t) → m₂ b = some v → Fr h₀ L h m → News h₀ L h ((I, oI) :: (J, oJ) :: (C, oC) :: (D, LCg.lst ys) :: news) →
    wpAny (model prog w) A (eval elt (compEnvC scope cl C env)) (fun y s' => g i y ∧ ∃ h' tk', s' = { s₂ with heap := h', toks := tk' } ∧ Fr h₀ L h' m ∧ News h₀ L h' ((I, oI) :: (J, oJ) :: (C, oC) :: (D, LCg.lst ys) :: news)) E' { s₂ with heap := h, toks := tk }

section
variable {prog : Program} {w : World} {A : Around} {E : Value → Shared → Prop} {s : Shared} {h₀ : Heap} {L : Addr} {m : Str → Option Value} {env : Env} {news : List (Addr × Obj)}

theorem enum_loop {elt iter : Expr} {a b : Str} {pa pb tp : Pos} {kk : Nat} {scope : Scope} {cl : List (Str × Addr)} {pos : Pos} {R : Result → Shared → Prop} {e it l C D : Addr} {items : Array Value} {n : Nat} {g : Nat → Value → Prop} {m₀ : Str → Option Value}
    (hh : A.handled = none) (hsz : items.size ≤ 1000) (hei : e ≠ it) (hm : (l, W.listOf items n) ∈ news) (off : ∀ p ∈ news, p.1 ∉ [e, it, C, D]) (hL : L ∉ [e, it, C, D]) (hnew : ∀ x ∈ [e, it, C, D], h₀.get? x = none) (hCD : C ≠ D) (hCe : C ∉ [e, it]) (hDe : D ∉ [e, it])
    (hkind : scope.kind = .function) (hxa : scope.names.lookup a = some .local) (hxb : scope.names.lookup b = some .local) (hab : ¬ a = b)
    (hE : IsEnum s.heap e it 0 .none) (hI : s.heap.IsListIter it l 0) (F : Fr h₀ L s.heap m) (hn : s.heap.Ns C m₀) (N : News h₀ L s.heap ((D, LCg.lst []) :: news))
    (turn : EnumTurn prog w A h₀ L m env elt a b scope cl items news g)
    (hR : ∀ h tk ys m', (∀ j, j < items.size → ∃ y, ys[j]? = some y ∧ g j y) → ys.length = items.size → Fr h₀ L h m → h.Ns C m' → News h₀ L h ((D, LCg.lst ys) :: news) → R (.ok .next) { s with heap := h, toks := tk }) :
    codeAny (model prog w) A (.compLoop (.ListComp elt [⟨.Tuple [.Name a pa, .Name b pb] kk tp, iter, [], 0⟩] scope pos) 0 (.ref e) (.ref D) (compEnvC scope cl C env)) R s := by
  have offl := off _ hm
  simp only [List.mem_cons, List.not_mem_nil, or_false, not_or] at offl hL hCe hDe
  have W := WalksT.enumerate (prog := prog) (w := w) (A := A) hh e it l hei offl.1 offl.2.1 items
  have off2 : ∀ ys : List Value, ∀ p ∈ (D, LCg.lst ys) :: news, p.1 ∉ [e, it] := fun ys p hp => by
    rcases List.mem_cons.mp hp with rfl | hp
    · simp only [List.mem_cons, List.not_mem_nil, or_false, not_or]
      exact hDe
    · have := off p hp
      simp only [List.mem_cons, List.not_mem_nil, or_false, not_or] at this ⊢
      exact ⟨this.1, this.2.1⟩
  have new2 : ∀ x ∈ [e, it], h₀.get? x = none := fun x hx => hnew x (by
    simp only [List.mem_cons, List.not_mem_nil, or_false] at hx ⊢
    rcases hx with h | h
    · exact .inl h
    · exact .inr (.inl h))
  refine kcp_loop (fun k s' => ∃ h' tk i ys m', s' = { s with heap := h', toks := tk } ∧ i ≤ items.size ∧ k = items.size + 1 - i ∧ ys.length = i ∧ (∀ j, j < i → ∃ y, ys[j]? = some y ∧ g j y) ∧
      (∃ old, IsEnum h' e it i old) ∧ h'.IsListIter it l i ∧ Fr h₀ L h' m ∧ h'.Ns C m' ∧ News h₀ L h' ((D, LCg.lst ys) :: news)) ?_ (items.size + 1)
    ⟨s.heap, s.toks, 0, [], m₀, rfl, Nat.zero_le _, rfl, rfl, fun j hj => absurd hj (Nat.not_lt_zero _), ⟨_, hE⟩, hI, F, hn, N⟩
  rintro k s' ⟨h', tk, i, ys, m', rfl, hi, rfl, hyl, hg, he', hi', F', hn', N'⟩
  have hl' : h'.IsList l items := ⟨_, (N' _ (List.mem_cons_of_mem _ hm)).1, rfl, _, rfl⟩
  by_cases hlt : i < items.size
  · refine W.item i _ _ _ hlt ⟨he', hi', hl'⟩ fun T vals h₁ tk₁ hPt _ hT hMid hk₁ => ?_
    refine W.go _ kk tp i T _ _ _ hMid fun h₂ hst₂ hk₂ => ?_
    obtain ⟨t, x, hx, rfl⟩ := hPt
    have hT₂ : h₂.IsTuple T #[.int i t, x] := hT.at fun o q => hk₂ T o (W.apart i T _ hMid) q
    have up₂ : ∀ c o, c ∉ [e, it] → h'.get? c = some o → h₂.get? c = some o := fun c o hc q => hk₂ c o hc (hk₁ c o hc q)
    have F₂ : Fr h₀ L h₂ m := fr_up F' up₂ (by simp [hL]) new2
    have N₂ : News h₀ L h₂ ((D, LCg.lst ys) :: news) := news_up N' up₂ (off2 ys)
    refine kcp_assign (env := compEnvC scope cl C env) hh hT₂ (lookup_relabel_local hxa) (lookup_relabel_local hxb) (by simp [compEnvC, relabel, hkind]) (hn'.at' fun o q => up₂ C o (by simp [hCe]) q) fun h₃ tk₃ hn₃ hs₃ => ?_
    have up₃ : ∀ c o, c ∉ [C] → h₂.get? c = some o → h₃.get? c = some o := fun c o hc q => hs₃ c o (show c ≠ C by simpa using hc) q
    have F₃ : Fr h₀ L h₃ m := fr_up F₂ up₃ (by simp [hL]) (fun y hy => hnew y (by rw [List.mem_singleton.mp hy]; simp))
    have N₃ : News h₀ L h₃ ((D, LCg.lst ys) :: news) := news_up N₂ up₃ (fun p hp => by
      rcases List.mem_cons.mp hp with rfl | hp
      · simpa using Ne.symm hCD
      · have := off p hp
        simp only [List.mem_cons, List.not_mem_nil, or_false, not_or] at this ⊢
        exact this.2.2.1)
    have hst₃ := W.frame _ _ h₃ hst₂ fun c hc o q => up₃ c o (by
      simp only [List.mem_cons, List.not_mem_nil, or_false] at hc ⊢
      rcases hc with rfl | rfl | rfl
      · exact Ne.symm hCe.1
      · exact Ne.symm hCe.2
      · exact offl.2.2.1) q
    obtain ⟨⟨old, heE⟩, hiI, _⟩ := id hst₃
    obtain ⟨oe, hoe⟩ : ∃ oe, h₃.get? e = some oe := ⟨_, heE⟩
    obtain ⟨oi, hoi⟩ : ∃ oi, h₃.get? it = some oi := ⟨_, hiI.choose_spec.1⟩
    obtain ⟨oC, heC, hoC⟩ := LCg.ns_obj hn₃
    have N₄ : News h₀ L h₃ ((e, oe) :: (it, oi) :: (C, oC) :: (D, LCg.lst ys) :: news) := fun p hp => by
      rcases List.mem_cons.mp hp with rfl | hp
      · exact ⟨hoe, Ne.symm hL.1, hnew _ (by simp)⟩
      · rcases List.mem_cons.mp hp with rfl | hp
        · exact ⟨hoi, Ne.symm hL.2.1, hnew _ (by simp)⟩
        · rcases List.mem_cons.mp hp with rfl | hp
          · exact ⟨heC, Ne.symm hL.2.2.1, hnew _ (by simp)⟩
          · exact N₃ p hp
    refine wpAny_mono (turn i x t e oe it oi C oC D _ ys s h₃ tk₃ _ hx hoC (by simp [hab]) (by simp) F₃ N₄) (fun y s₄ h₄ => ?_) fun _ _ q => q
    obtain ⟨hgy, h₄, tk₄, rfl, F₄, N₅⟩ := h₄
    have ze := (N₅ (e, oe) List.mem_cons_self).1
    have zi := (N₅ (it, oi) (List.mem_cons_of_mem _ List.mem_cons_self)).1
    have zC := (N₅ (C, oC) (List.mem_cons_of_mem _ (List.mem_cons_of_mem _ List.mem_cons_self))).1
    have N₆ : News h₀ L h₄ ((D, LCg.lst ys) :: news) := fun p hp => N₅ p (List.mem_cons_of_mem _ (List.mem_cons_of_mem _ (List.mem_cons_of_mem _ hp)))
    have zD := (N₆ _ List.mem_cons_self).1
    have zl := (N₆ _ (List.mem_cons_of_mem _ hm)).1
    have hst₄ := W.frame _ _ h₄ hst₃ fun c hc o q => by
      simp only [List.mem_cons, List.not_mem_nil, or_false] at hc
      rcases hc with rfl | rfl | rfl
      · rw [hoe] at q; cases q; exact ze
      · rw [hoi] at q; cases q; exact zi
      · have q2 := (N₄ _ (List.mem_cons_of_mem _ (List.mem_cons_of_mem _ (List.mem_cons_of_mem _ (List.mem_cons_of_mem _ hm))))).1
        rw [q2] at q; cases q; exact zl
    refine append_at (hsz := by show ys.toArray.size ≤ sizeLine; rw [List.size_toArray, hyl, sizeLine_eq]; omega) zD fun h₅ hs₅ hD₅ => ?_
    have hst₅ := W.frame _ _ h₅ hst₄ fun c hc o q => hs₅.extBut c o (by
      simp only [List.mem_cons, List.not_mem_nil, or_false] at hc
      rcases hc with rfl | rfl | rfl
      · exact Ne.symm hDe.1
      · exact Ne.symm hDe.2
      · exact offl.2.2.2) q
    obtain ⟨h5e, h5i, _⟩ := hst₅
    refine ⟨items.size + 1 - (i + 1), by omega, h₅, tk₄, i + 1, ys ++ [y], _, rfl, hlt, rfl, by rw [List.length_append, List.length_singleton, hyl], fun j hj => ?_, h5e, h5i, F₄.change hs₅ (Ne.symm hL.2.2.2) (hnew _ (by simp)), (hoC.ns zC).sameBut hs₅ hCD, fun p hp => ?_⟩
    · by_cases hji : j < i
      · obtain ⟨z, hz, hgz⟩ := hg j hji
        refine ⟨z, ?_, hgz⟩
        rw [List.getElem?_append_left (by omega)]
        exact hz
      · have : j = i := by omega
        subst this
        refine ⟨y, ?_, hgy⟩
        rw [List.getElem?_append_right (by omega), hyl, Nat.sub_self]
        rfl
    · rcases List.mem_cons.mp hp with rfl | hp
      · exact ⟨hD₅.trans (congrArg some (LCg.lst_snoc ys y)), Ne.symm hL.2.2.2, hnew _ (by simp)⟩
      · have := off p hp
        simp only [List.mem_cons, List.not_mem_nil, or_false, not_or] at this
        exact ⟨hs₅.extBut _ _ this.2.2.2 (N₆ p (List.mem_cons_of_mem _ hp)).1, (N₆ p (List.mem_cons_of_mem _ hp)).2⟩
  · have hin : i = items.size := Nat.le_antisymm hi (Nat.not_lt.mp hlt)
    subst hin
    refine W.done _ _ _ ⟨he', hi', hl'⟩ fun h₂ tk₂ hk₂ => ?_
    exact hR h₂ tk₂ ys m' hg hyl (fr_up F' hk₂ (by simp [hL]) new2) (hn'.at' fun o q => hk₂ _ o (by simp [hCe]) q) (news_up N' hk₂ (off2 ys))

/-- the source of a comprehension over an enumerated list -/
def EnumAt (prog : Program) (w : World) (A : Around) (h₀ : Heap) (L : Addr) (m : Str → Option Value) (env : Env) (elt : Expr) (a b : Str) (scope : Scope) (cl : List (Str × Addr)) (y : Str) (Q : Flow → Shared → Prop) (xv : Value) (s₁ : Shared) : Prop :=
  ∃ (e it l : Addr) (items : Array Value) (n : Nat) (news : List (Addr × Obj)) (g : Nat → Value → Prop), xv = .ref e ∧ IsEnum s₁.heap e it 0 .none ∧ s₁.heap.IsListIter it l 0 ∧ e ≠ it ∧ A.handled = none ∧ Fr h₀ L s₁.heap m ∧ News h₀ L s₁.heap news ∧ (l, W.listOf items n) ∈ news ∧ (∀ p ∈ news, p.1 ∉ [e, it]) ∧ L ∉ [e, it] ∧
    (∀ x ∈ [e, it], h₀.get? x = none) ∧ items.size ≤ 1000 ∧ EnumTurn prog w A h₀ L m env elt a b scope cl items news g ∧
    ∀ D ys h tk, (∀ j, j < items.size → ∃ y, ys[j]? = some y ∧ g j y) → ys.length = items.size → Fr h₀ L h (fun z => if z = y then some (.ref D) else m z) → News h₀ L h ((D, LCg.lst ys) :: news) → (∀ p ∈ news, p.1 ≠ D) → Q .next { s₁ with heap := h, toks := tk }

theorem enum_at {elt : Expr} {a b : Str} {scope : Scope} {cl : List (Str × Addr)} {y : Str} {Q : Flow → Shared → Prop} {l : Addr} {items : Array Value} {n : Nat} (g : Nat → Value → Prop) (hh : A.handled = none) (F : Fr h₀ L s.heap m) (N : News h₀ L s.heap news) (hm : (l, W.listOf items n) ∈ news) (hsz : items.size ≤ 1000)
    (turn : EnumTurn prog w A h₀ L m env elt a b scope cl items news g)
    (fin : ∀ D ys h tk, (∀ j, j < items.size → ∃ y, ys[j]? = some y ∧ g j y) → ys.length = items.size → Fr h₀ L h (fun z => if z = y then some (.ref D) else m z) → News h₀ L h ((D, LCg.lst ys) :: news) → (∀ p ∈ news, p.1 ≠ D) → Q .next { s with heap := h, toks := tk }) :
    wpAny (model prog w) A (call (.type "enumerate") [.ref l]) (EnumAt prog w A h₀ L m env elt a b scope cl y Q) E s := by
  refine call_enumerate_list ⟨_, (N _ hm).1, rfl, _, rfl⟩ fun h' hE hI hsize hk => ?_
  have lt : ∀ p ∈ news, p.1 < s.heap.objs.size := fun p hp => Heap.lt_size (N p hp).1
  have fresh : ∀ x, s.heap.objs.size ≤ x → h₀.get? x = none := fun x hx => by
    cases q : h₀.get? x with
    | none => rfl
    | some o => exact absurd (Heap.lt_size (F.keep x o q)) (Nat.not_lt.mpr hx)
  refine ⟨s.heap.objs.size + 1, s.heap.objs.size, l, items, n, news, g, rfl, hE, hI, Nat.succ_ne_self _, hh, F.keeps hk, N.grown hk, hm, fun p hp => ?_, ?_, fun x hx => ?_, hsz, turn, fin⟩
  · have := lt p hp
    simp only [List.mem_cons, List.not_mem_nil, or_false, not_or]
    exact ⟨Nat.ne_of_lt (Nat.lt_succ_of_lt this), Nat.ne_of_lt this⟩
  · have := F.ns.lt
    simp only [List.mem_cons, List.not_mem_nil, or_false, not_or]
    exact ⟨Nat.ne_of_lt (Nat.lt_succ_of_lt this), Nat.ne_of_lt this⟩
  · simp only [List.mem_cons, List.not_mem_nil, or_false] at hx
    rcases hx with rfl | rfl
    · exact fresh _ (Nat.le_succ _)
    · exact fresh _ (Nat.le_refl _)

theorem assign_enum {elt iter : Expr} {a b y : Str} {pa pb tp py : Pos} {kk : Nat} {scope : Scope} {cl : List (Str × Addr)} {pos spos : Pos} {Q : Flow → Shared → Prop} (_F₀ : Fr h₀ L s.heap m) (hLe : env.locals = L)
    (hsw : swapsWith (.ListComp elt [⟨.Tuple [.Name a pa, .Name b pb] kk tp, iter, [], 0⟩] scope pos) (some (.Name y py)) spos.line env = pure true)
    (hclos : closureFor scope env = pure cl) (hcell : ∀ y ∈ scope.names, y.2 ≠ .cell) (hkind : scope.kind = .function)
    (hnames : ∀ y ∈ scope.names, y.2 = .local → scope.names.lookup y.1 = some .local) (hxa : scope.names.lookup a = some .local) (hxb : scope.names.lookup b = some .local) (hab : ¬ a = b)
    (hy : env.kindOf y = some .local) (hp : (env.scope.kind == .class || (env.scope.kind == .module && env.locals != env.globals)) = false)
    (h : wpAny (model prog w) A (eval iter env) (EnumAt prog w A h₀ L m env elt a b scope cl y Q) E s)
    (hs : ∀ x, foldedSetIterable iter env x = pure x := by intro _; rfl) :
    wpAny (model prog w) A (exec (.Assign [.Name y py] (.ListComp elt [⟨.Tuple [.Name a pa, .Name b pb] kk tp, iter, [], 0⟩] scope pos) spos) env) Q E s := by
  subst hLe
  rw [exec_Assign_Name_used _ _ _ _ hsw]
  refine wpAny_bind (wpAny_standAt (wpAny_bind ?_))
  show wpAny _ A (do let _ ← comprehension (.ListComp elt [⟨.Tuple [.Name a pa, .Name b pb] kk tp, iter, [], 0⟩] scope pos) scope env _ (newList []) false (eval iter env) (some (assign (.Name y py) env))) _ _ s
  refine wpAny_bind (wpAny_mono (wpAny_comprehension_free (use := some (assign (.Name y py) env)) (Q := fun _ s' => Q .next s') rfl hs hclos hkind hnames
    (wpAny_mono h (fun xv s₁ h₁ => ?_) fun _ _ q => q)) (fun _ s' hq => wpAny_pure (wpAny_pure hq)) fun _ _ q => q)
  obtain ⟨e, it, l, items, n, news, g, rfl, hE, hI, hei, hh, F, N, hm, off, hL, hnew, hsz, turn, fin⟩ := h₁
  refine wpAny_pyIter_enum hE ?_
  refine wpAny_newObj_type (wpAny_newFunctionEnv hcell (by intro y hy; simp at hy) (fun h₁ hns₁ hsb₁ => ?_) hkind)
  dsimp only at hns₁ hsb₁ ⊢
  generalize hH2 : s₁.heap.push { cls := .type "list", dict := none, data := .seq ([] : List Value).toArray } = H2 at hns₁ hsb₁ ⊢
  have hC : H2.objs.size = s₁.heap.objs.size + 1 := by rw [← hH2, Heap.size_push]
  have hDC : s₁.heap.objs.size ≠ H2.objs.size := by rw [hC]; exact Nat.ne_of_lt (Nat.lt_succ_self _)
  have below : ∀ x, x < s₁.heap.objs.size → x ≠ H2.objs.size ∧ x ≠ s₁.heap.objs.size := fun x hx => ⟨by rw [hC]; exact Nat.ne_of_lt (Nat.lt_succ_of_lt hx), Nat.ne_of_lt hx⟩
  have old : ∀ x o, s₁.heap.get? x = some o → h₁.get? x = some o := fun x o q => hsb₁.extBut x o (below x (Heap.lt_size q)).1 (Heap.get?_push_of_some _ (hH2 ▸ Heap.get?_push_of_some _ q))
  have hacc : h₁.get? s₁.heap.objs.size = some (LCg.lst []) := hsb₁.extBut _ _ hDC (Heap.get?_push_of_some _ (hH2 ▸ Heap.get?_push_size _ rfl))
  have fresh : ∀ x, s₁.heap.objs.size ≤ x → h₀.get? x = none := fun x hx => by
    cases q : h₀.get? x with
    | none => rfl
    | some o => exact absurd (Heap.lt_size (F.keep x o q)) (Nat.not_lt.mpr hx)
  have hD₀ : h₀.get? s₁.heap.objs.size = none := fresh _ (Nat.le_refl _)
  have hC₀ : h₀.get? H2.objs.size = none := fresh _ (by rw [hC]; exact Nat.le_succ _)
  have hLb := below env.locals F.ns.lt
  have heb := below e (Heap.lt_size hE)
  have hib := below it (Heap.lt_size hI.choose_spec.1)
  simp only [List.mem_cons, List.not_mem_nil, or_false, not_or] at hL
  have hE₁ : IsEnum h₁ e it 0 .none := old _ _ hE
  have hI₁ : h₁.IsListIter it l 0 := hI.at fun o q => old _ o q
  have N₁ : News h₀ env.locals h₁ ((s₁.heap.objs.size, LCg.lst []) :: news) := fun p hp => by
    rcases List.mem_cons.mp hp with rfl | hp
    · exact ⟨hacc, Ne.symm hLb.2, hD₀⟩
    · exact ⟨old _ _ (N p hp).1, (N p hp).2⟩
  have loop := fun (R : Result → Shared → Prop) (hR : ∀ h tk ys m', (∀ j, j < items.size → ∃ y, ys[j]? = some y ∧ g j y) → ys.length = items.size → Fr h₀ env.locals h m → h.Ns H2.objs.size m' → News h₀ env.locals h ((s₁.heap.objs.size, LCg.lst ys) :: news) → R (.ok .next) { s₁ with heap := h, toks := tk }) =>
    enum_loop (prog := prog) (w := w) (env := env) (s := { s₁ with heap := h₁, toks := s₁.toks + ([] : List (Str × Value)).length }) (iter := iter) (pa := pa) (pb := pb) (tp := tp) (kk := kk) (pos := pos) (cl := cl) (C := H2.objs.size) (D := s₁.heap.objs.size) hh hsz hei hm (fun p hp => by
        have o1 := off p hp
        have o2 := below p.1 (Heap.lt_size (N p hp).1)
        simp only [List.mem_cons, List.not_mem_nil, or_false, not_or] at o1 ⊢
        exact ⟨o1.1, o1.2, o2.1, o2.2⟩) (by simp only [List.mem_cons, List.not_mem_nil, or_false, not_or]; exact ⟨hL.1, hL.2, hLb.1, hLb.2⟩) (fun x hx => by
        simp only [List.mem_cons, List.not_mem_nil, or_false] at hx
        rcases hx with rfl | rfl | rfl | rfl
        · exact hnew _ (by simp)
        · exact hnew _ (by simp)
        · exact hC₀
        · exact hD₀) (Ne.symm hDC) (by simp only [List.mem_cons, List.not_mem_nil, or_false, not_or]; exact ⟨Ne.symm heb.1, Ne.symm hib.1⟩) (by simp only [List.mem_cons, List.not_mem_nil, or_false, not_or]; exact ⟨Ne.symm heb.2, Ne.symm hib.2⟩)
      hkind hxa hxb hab hE₁ hI₁ (F.keeps old) hns₁ N₁ turn hR
  have last : ∀ h tk ys m', (∀ j, j < items.size → ∃ y, ys[j]? = some y ∧ g j y) → ys.length = items.size → Fr h₀ env.locals h m → h.Ns H2.objs.size m' → News h₀ env.locals h ((s₁.heap.objs.size, LCg.lst ys) :: news) →
      compPost (model prog w) A E (some (assign (.Name y py) env)) (fun _ s' => Q .next s') (.ref s₁.heap.objs.size) H2.objs.size (.ok .next) { s₁ with heap := h, toks := tk } := by
    intro h tk ys m' hg hyl F' hn' N'
    show wpAny _ A (assign (.Name y py) env (.ref s₁.heap.objs.size)) _ _ _
    refine wpAny_assign_Name (wpAny_storeName_local hy F'.ns (fun h₂ hn₂ hs₂ => ?_) hp)
    have hL₀ : h₀.get? env.locals = none := Heap.get?_none_of_le F'.above
    have F₂ : Fr h₀ env.locals h₂ (fun z => if z = y then some (.ref s₁.heap.objs.size) else m z) := ⟨hn₂, fun b o q => hs₂.extBut b o (fun r => by rw [r, hL₀] at q; cases q) (F'.keep b o q), F'.above⟩
    refine ⟨m', hn'.sameBut hs₂ (Ne.symm hLb.1), fun h'' hs'' => fin _ ys h'' _ hg hyl (F₂.change hs'' (Ne.symm hLb.1) hC₀) (fun p hp => ?_) fun p hp => (below _ (Heap.lt_size (N p hp).1)).2⟩
    have z : h₂.get? p.1 = some p.2 := hs₂.extBut _ _ (N' p hp).2.1 (N' p hp).1
    refine ⟨hs''.extBut _ _ ?_ z, (N' p hp).2⟩
    rcases List.mem_cons.mp hp with rfl | hp
    · exact hDC
    · exact (below _ (Heap.lt_size (N p hp).1)).1
  exact codeAny_compStart_list (loop _ last) (wpAny_pyIter_enum hE₁ (loop _ last))
end
end Mine
end

-- LawP
section
open PySem PySem.W PyProof.Rows PySem.Calls
set_option Elab.async false
set_option maxRecDepth 100000
set_option maxHeartbeats 4000000
namespace Mine

theorem filterMap_ints {vs : List Value} {ns : List Int} (hi : IntsAre vs ns) : ∀ ks : List Nat, ∃ ms, IntsAre (ks.filterMap (vs.toArray[·]?)) ms
  | [] => ⟨[], .nil⟩
  | k :: r => by
    obtain ⟨ms, h⟩ := filterMap_ints hi r
    cases hk : vs.toArray[k]? with
    | none =>
      refine ⟨ms, ?_⟩
      rw [List.filterMap_cons_none hk]
      exact h
    | some v =>
      have hk' : vs[k]? = some v := by simpa using hk
      obtain ⟨n, t, rfl, _⟩ := IntsAre.at hi k v hk'
      refine ⟨n :: ms, ?_⟩
      rw [List.filterMap_cons_some hk]
      exact .cons n t h

section
variable {prog : Program} {w : World} {A : Around} {E : Value → Shared → Prop} {s : Shared} {h₀ : Heap} {L : Addr} {m : Str → Option Value} {env : Env} {news : List (Addr × Obj)}

/-- xs[k::6] of a list of ints -/
theorem slice_step {value slice : PySem.Expr} {l : Addr} {vs : List Value} {ns : List Int} {k : Int} {t u : Tok} {ops : List Value} {Q : Value → Shared → Prop} (F : Fr h₀ L s.heap m) (N : News h₀ L s.heap news) (hl : s.heap.IsList l vs.toArray) (hi : IntsAre vs ns) (hlen : ns.length ≤ 63)
    (h : ∀ D ws ms h', Fr h₀ L h' m → News h₀ L h' ((D, W.listOf (List.toArray ws) 0) :: news) → (∀ p ∈ news, p.1 < D) → IntsAre ws ms → ms.length ≤ 63 → Q (.ref D) { s with heap := h' })
    (hs : subscripted slice false (.ref l) (.ref s.heap.objs.size) = operate ops (getItem (.ref l) (.ref s.heap.objs.size)) := by with_unfolding_all rfl) (ht : ∀ r, letTemporaryGo value (.ref l) r = pure () := by intro _; with_unfolding_all rfl) :
    wpAny (model prog w) A (subscriptTail value slice (.ref l) (.ref s.heap.objs.size)) Q E { s with heap := s.heap.push { cls := .type "slice", data := .fields #[.int k t, .none, .int 6 u] } } := by
  have hmi : ∃ ms, IntsAre (slicePick vs.toArray (some k) none (some 6)).toList ms := filterMap_ints hi _
  obtain ⟨ms, hm⟩ := hmi
  have hle : ms.length ≤ 63 := by
    have q := slicePick_size_le vs.toArray (some k) none (some 6)
    have q2 : vs.toArray.size = ns.length := by rw [List.size_toArray, hi.length]
    have q3 : (slicePick vs.toArray (some k) none (some 6)).toList.length = ms.length := hm.length
    rw [Array.length_toList] at q3
    omega
  refine kmk_slice3_lit (st := some 6) (lo := some k) (hi := none) F N hl (by constructor) (by constructor) (by constructor) (by decide) rfl (fun D h' F' N' l1 => h D _ ms h' F' N' l1 hm hle) hs ht ?_
  rw [List.size_toArray, hi.length, sizeLine_eq]
  omega

/-- the turns of a comprehension whose element may call -/
theorem rest_any {elt : Expr} {x : Str} {scope : Scope} {cl : List (Str × Addr)} {S : List (Addr × Obj) → Prop} {Fin : List Value → List (Addr × Obj) → Prop} {its : Array Value} {ns : List Int} (g : Int → Value → Prop) (hi : IntsAre its.toList ns) (hS : S news)
    (turn : ∀ (n : Int) (t : Tok) I oI C oC D m₂ ys h tk (E' : Value → Shared → Prop), n ∈ ns → LCg.NsObj oC m₂ → m₂ x = some (.int n t) → Fr h₀ L h m → News h₀ L h ((I, oI) :: (C, oC) :: (D, LCg.lst ys) :: news) →
      wpAny (model prog w) A (eval elt (compEnvC scope cl C env)) (fun y s₂ => g n y ∧ ∃ h' tk', s₂ = { s with heap := h', toks := tk' } ∧ Fr h₀ L h' m ∧ News h₀ L h' ((I, oI) :: (C, oC) :: (D, LCg.lst ys) :: news)) E' { s with heap := h, toks := tk })
    (fin : ∀ ys, Each g ns ys → Fin ys news) : LCg.CompRest prog w A h₀ L m env elt x scope cl s S (fun i v => its[i]? = some v) Fin its.size 0 [] news := by
  have hsz : its.size = ns.length := by rw [← hi.length]; simp
  have key : ∀ (j i : Nat) (ys : List Value), i + j = ns.length → Each g (ns.take i) ys → LCg.CompRest prog w A h₀ L m env elt x scope cl s S (fun i v => its[i]? = some v) Fin j i ys news := by
    intro j
    induction j with
    | zero =>
      intro i ys hij hy
      have e : i = ns.length := by omega
      subst e
      rw [List.take_length] at hy
      exact LCg.CompRest.zero (fin ys hy)
    | succ j ih =>
      intro i ys hij hy
      refine LCg.CompRest.succ ?_
      intro v I oI C oC D m₂ h tk E' hv hC hx F N off ne
      obtain ⟨n, t, rfl, hn⟩ := IntsAre.at hi i v (by rw [Array.getElem?_toList]; exact hv)
      refine wpAny_mono (turn n t I oI C oC D m₂ ys h tk E' (List.mem_of_getElem? hn) hC hx F N) (fun y s₂ hq => ?_) fun _ _ e => e
      obtain ⟨hg, h', tk', rfl, F', N'⟩ := hq
      refine ⟨h', tk', news, rfl, F', N', off, hS, ih (i + 1) _ (by omega) ?_⟩
      rw [List.take_add_one, hn]
      exact hy.snoc hg
  rw [hsz]
  exact key ns.length 0 [] (by omega) .nil

theorem each_ints {f : Int → Int} : ∀ {ns : List Int} {ys : List Value}, Each (fun n y => ∃ t, y = .int (f n) t) ns ys → IntsAre ys (ns.map f)
  | _, _, .nil => .nil
  | _, _, .cons h r => by obtain ⟨t, rfl⟩ := h; exact .cons _ t (each_ints r)
theorem each_strs {f : Int → List Nat} : ∀ {ns : List Int} {ys : List Value}, Each (fun n y => ∃ t, y = .str (S (f n)) t) ns ys → StrsAre ys ((ns.map f).map S)
  | _, _, .nil => .nil
  | _, _, .cons h r => by obtain ⟨t, rfl⟩ := h; exact .cons _ t (each_strs r)

theorem ints_of {P : Int → Prop} : ∀ {ys : List Value}, (∀ y ∈ ys, ∃ n t, y = .int n t ∧ P n) → ∃ ns, IntsAre ys ns ∧ ∀ n ∈ ns, P n
  | [], _ => ⟨[], .nil, fun _ h => nomatch h⟩
  | y :: r, h => by
    obtain ⟨n, t, rfl, hp⟩ := h y (List.mem_cons_self ..)
    obtain ⟨ns, hi, hn⟩ := ints_of fun z hz => h z (List.mem_cons_of_mem _ hz)
    refine ⟨n :: ns, .cons n t hi, fun z hz => ?_⟩
    rcases List.mem_cons.mp hz with rfl | hz
    · exact hp
    · exact hn z hz
theorem ints_of_at {P : Int → Prop} {ys : List Value} {k : Nat} (hl : ys.length = k) (h : ∀ j, j < k → ∃ y, ys[j]? = some y ∧ ∃ n t, y = .int n t ∧ P n) : ∃ ns, IntsAre ys ns ∧ ns.length = k ∧ ∀ n ∈ ns, P n := by
  obtain ⟨ns, hi, hn⟩ := ints_of (P := P) (ys := ys) fun y hy => by
    obtain ⟨j, hj, rfl⟩ := List.getElem_of_mem hy
    obtain ⟨y, e, r⟩ := h j (by omega)
    rw [List.getElem?_eq_getElem hj] at e
    exact (Option.some.inj e) ▸ r
  exact ⟨ns, hi, by rw [← hi.length, hl], hn⟩

/-- ''.join over texts by their signs -/
theorem join_parts {D : Addr} {ps : List (List Nat)} {ys : List Value} {n : Nat} {t : Tok} {Q : Value → Shared → Prop} (N : News h₀ L s.heap news) (hm : (D, W.listOf ys.toArray n) ∈ news) (hi : StrsAre ys (ps.map S)) (hl : (ps.map (·.length)).sum ≤ 300000)
    (h : ∀ t k, Q (.str (S ps.flatten) t) { s with toks := k }) : wpAny (model prog w) A (call (.builtin "str.join") [.str (Str.ofString "") t, .ref D]) Q E s := by
  rw [show Str.ofString "" = (⟨([] : List Nat).toArray⟩ : Str) by decide +kernel]
  refine join_list (ys := ps.map S) (items := ys.toArray) ⟨_, (N _ hm).1, rfl, _, rfl⟩ (by simpa using hi) ?_ fun t' k => ?_
  · have e1 : ((ps.map S).map (·.length)).sum = (ps.map (·.length)).sum := by
      rw [List.map_map]
      refine congrArg List.sum (List.map_congr_left fun p _ => ?_)
      simp [Str.length]
    rw [e1]
    simp [Str.length]
    omega
  · have e : (ps.map S) = ps.map fun p => (⟨p.toArray⟩ : Str) := rfl
    rw [e, R.join_flat]
    exact h t' k
end

/-! bounds of the text behind the hands -/
theorem flat6 {f : Nat → List Nat} (h : ∀ c, (f c).length ≤ 6) (l : List Nat) : (l.flatMap f).length ≤ 6 * l.length := flat_le h l
theorem tab_len6 {T : Tab} (h : ∀ p ∈ T, p.2.length ≤ 6) (c : Nat) : (tab T c).length ≤ 6 := by
  unfold tab
  cases q : T.lookup c with
  | none => simp
  | some z => exact h _ (look_mem q)
theorem tab_lt {T : Tab} (h : ∀ p ∈ T, ∀ x ∈ p.2, x < 256) {c : Nat} (hc : c < 256) : ∀ x ∈ tab T c, x < 256 := by
  unfold tab
  cases q : T.lookup c with
  | none => intro x hx; rw [List.mem_singleton.mp hx]; exact hc
  | some z => exact h _ (look_mem q)
theorem flat_tab_lt {T : Tab} (h : ∀ p ∈ T, ∀ x ∈ p.2, x < 256) {l : List Nat} (hl : ∀ c ∈ l, c < 256) : ∀ x ∈ l.flatMap (tab T), x < 256 := by
  intro x hx
  obtain ⟨c, hc, hx⟩ := List.mem_flatMap.mp hx
  exact tab_lt h (hl c hc) x hx
theorem fixE_lt : ∀ (n : Nat) (l : List Nat), l.length ≤ n → (∀ c ∈ l, c < 256) → ∀ c ∈ R.fixE l, c < 256
  | 0, l, h, _ => by
    have : l = [] := List.length_eq_zero_iff.mp (by omega)
    subst this; simp [R.fixE]
  | n + 1, l, h, hl => by
    match l with
    | [] => simp [R.fixE]
    | c :: r =>
      simp only [List.length_cons] at h
      have hc := hl c (List.mem_cons_self ..)
      have hr : ∀ x ∈ r, x < 256 := fun x hx => hl x (List.mem_cons_of_mem _ hx)
      by_cases h1 : c = 13
      · subst h1
        match r, hr with
        | [], _ => rw [R.fixE_cr (by intro r' q; cases q)]; simp [R.fixE]
        | d :: r', hr =>
          simp only [List.length_cons] at h
          by_cases h2 : d = 10
          · subst h2
            rw [R.fixE_crlf]
            have := fixE_lt n r' (by omega) fun x hx => hr x (List.mem_cons_of_mem _ hx)
            intro x hx
            simp only [List.mem_cons] at hx
            rcases hx with rfl | rfl | hx
            · decide
            · decide
            · exact this x hx
          · rw [R.fixE_cr (by intro r'' q; exact h2 (List.cons.inj q).1)]
            have := fixE_lt n (d :: r') (by simp only [List.length_cons]; omega) hr
            intro x hx
            simp only [List.mem_cons] at hx
            rcases hx with rfl | rfl | hx
            · decide
            · decide
            · exact this x hx
      · by_cases h2 : c = 10
        · subst h2
          rw [R.fixE_lf]
          have := fixE_lt n r (by omega) hr
          intro x hx
          simp only [List.mem_cons] at hx
          rcases hx with rfl | rfl | hx
          · decide
          · decide
          · exact this x hx
        · rw [R.fixE_cons_other h2 h1]
          have := fixE_lt n r (by omega) hr
          intro x hx
          rcases List.mem_cons.mp hx with rfl | hx
          · exact hc
          · exact this x hx
theorem doneF_ok (d : Int) {l : List Nat} (hl : ∀ c ∈ l, c < 256) : (doneF d l).length ≤ 6 * l.length ∧ ∀ c ∈ doneF d l, c < 256 := by
  have k0 : (∀ p ∈ tab0, p.2.length ≤ 6) ∧ ∀ p ∈ tab0, ∀ x ∈ p.2, x < 256 := by decide
  have k1 : (∀ p ∈ tab1, p.2.length ≤ 6) ∧ ∀ p ∈ tab1, ∀ x ∈ p.2, x < 256 := by decide
  have k2 : (∀ p ∈ tab2, p.2.length ≤ 6) ∧ ∀ p ∈ tab2, ∀ x ∈ p.2, x < 256 := by decide
  have k3 : (∀ p ∈ tab3, p.2.length ≤ 6) ∧ ∀ p ∈ tab3, ∀ x ∈ p.2, x < 256 := by decide
  have k4 : (∀ p ∈ tab4, p.2.length ≤ 6) ∧ ∀ p ∈ tab4, ∀ x ∈ p.2, x < 256 := by decide
  have h1 := fixE_len l.length l (Nat.le_refl _)
  have h2 := fixE_lt l.length l (Nat.le_refl _) hl
  unfold doneF
  repeat' split
  · exact ⟨flat6 (tab_len6 k0.1) l, flat_tab_lt k0.2 hl⟩
  · exact ⟨flat6 (tab_len6 k1.1) l, flat_tab_lt k1.2 hl⟩
  · exact ⟨flat6 (tab_len6 k2.1) l, flat_tab_lt k2.2 hl⟩
  · exact ⟨flat6 (tab_len6 k3.1) l, flat_tab_lt k3.2 hl⟩
  · exact ⟨flat6 (tab_len6 k4.1) l, flat_tab_lt k4.2 hl⟩
  · refine ⟨?_, fun c hc => h2 c (dots_mem46 _ _ c hc)⟩
    have := dots_len true (R.fixE l)
    omega
  · exact ⟨by omega, h2⟩
  · refine ⟨?_, fun c hc => hl c (dots_mem46 _ _ c hc)⟩
    have := dots_len true l
    omega
  · exact ⟨by omega, hl⟩
theorem fold_ok : ∀ (run : List Int) {l : List Nat}, (∀ c ∈ l, c < 256) → (run.foldl (fun t d => doneF d t) l).length ≤ 6 ^ run.length * l.length ∧ ∀ c ∈ run.foldl (fun t d => doneF d t) l, c < 256
  | [], l, h => ⟨by simp, h⟩
  | d :: r, l, h => by
    rw [List.foldl_cons, List.length_cons]
    have h1 := doneF_ok d h
    have h2 := fold_ok r h1.2
    refine ⟨Nat.le_trans h2.1 ?_, h2.2⟩
    have := Nat.mul_le_mul_left (6 ^ r.length) h1.1
    rw [Nat.pow_succ, Nat.mul_assoc]
    exact this
theorem fold_room {run : List Int} {l : List Nat} {i : Nat} (hi : i < 6) (hl : ∀ c ∈ l, c < 256) (h12 : l.length ≤ 12) : ((run.take i).foldl (fun t d => doneF d t) l).length ≤ 150000 ∧ (R.fixE ((run.take i).foldl (fun t d => doneF d t) l)).length ≤ 300000 ∧ ∀ c ∈ (run.take i).foldl (fun t d => doneF d t) l, c < 256 := by
  have h := fold_ok (run.take i) hl
  have h2 : 6 ^ (run.take i).length ≤ 6 ^ 5 := Nat.pow_le_pow_right (by decide) (by rw [List.length_take]; omega)
  have h3 : 6 ^ (run.take i).length * l.length ≤ 6 ^ 5 * 12 := Nat.mul_le_mul h2 h12
  have h4 := fixE_len _ ((run.take i).foldl (fun t d => doneF d t) l) (Nat.le_refl _)
  exact ⟨by omega, by omega, h.2⟩
theorem pieces_ok (ds : List Int) (h6 : ds.length = 6) : ((ds.map pieceL).map (·.length)).sum ≤ 12 ∧ (ds.map pieceL).flatten.length ≤ 12 ∧ ∀ c ∈ (ds.map pieceL).flatten, c < 256 := by
  have h1 : ∀ ds : List Int, ((ds.map pieceL).map (·.length)).sum ≤ 2 * ds.length := by
    intro ds
    induction ds with
    | nil => simp
    | cons d r ih =>
      simp only [List.map_cons, List.sum_cons, List.length_cons]
      have := (pieceL_ok d).1
      omega
  have h2 := h1 ds
  refine ⟨by omega, by rw [List.length_flatten]; exact (show ((ds.map pieceL).map (·.length)).sum ≤ 12 by omega), fun c hc => ?_⟩
  obtain ⟨p, hp, hc⟩ := List.mem_flatten.mp hc
  obtain ⟨d, _, rfl⟩ := List.mem_map.mp hp
  exact (pieceL_ok d).2 c hc
theorem sum_mod : ∀ (ms : List Int), 0 ≤ (ms.map fun x => x.fmod 1000000).sum ∧ (ms.map fun x => x.fmod 1000000).sum ≤ 1000000 * ms.length
  | [] => by simp
  | x :: r => by
    have := sum_mod r
    have h1 := Int.fmod_nonneg_of_pos x (b := 1000000) (by decide)
    have h2 := Int.fmod_lt_of_pos x (b := 1000000) (by decide)
    simp only [List.map_cons, List.sum_cons, List.length_cons]
    omega
theorem sum_bound {own : Int} {ms : List Int} (h : ms.length ≤ 63) (h0 : 0 ≤ own) (h1 : own ≤ 107) : 0 ≤ own + (ms.map fun n => n.fmod 1000000).sum ∧ own + (ms.map fun n => n.fmod 1000000).sum < 2 ^ 40 := by
  have := sum_mod ms
  omega

section
variable {prog : Program} {w : World} {A : Around} {E : Value → Shared → Prop} {s : Shared} {env : Env} {h₀ : Heap} {x : Str} {body : List Stmt} {Q : Flow → Shared → Prop}
/-- a loop over a list of ints of the ledger, which no turn changes -/
theorem for_ints {l : Addr} {ys : List Value} {nn : Nat} {zs : List Int} {m₀ : Str → Option Value} {news : List (Addr × Obj)} (J : Nat → (Str → Option Value) → List (Addr × Obj) → Prop)
    (hJl : ∀ i m₁ nx, J i m₁ nx → (l, W.listOf ys.toArray nn) ∈ nx)
    (hh : A.handled = none) (hS : IntsAre ys zs) (F : Fr h₀ env.locals s.heap m₀) (N : News h₀ env.locals s.heap news) (hj : J 0 m₀ news)
    (turn : ∀ (i : Nat) n tt m₁ news₁ h tk oI, zs[i]? = some n → J i m₁ news₁ → (∀ q ∈ news₁, q.1 ≠ s.heap.objs.size) → Fr h₀ env.locals h (fun z => if z = x then some (.int n tt) else m₁ z) → News h₀ env.locals h (news₁ ++ [(s.heap.objs.size, oI)]) →
      wpAny (model prog w) A (execs body env) (TurnEnd h₀ env.locals s.heap.objs.size oI (J (i + 1)) { s with heap := h, toks := tk }) E { s with heap := h, toks := tk })
    (done : ∀ m₁ nx h tk, J zs.length m₁ nx → Fr h₀ env.locals h m₁ → News h₀ env.locals h nx → Q .next { s with heap := h, toks := tk }) :
    wpAny (model prog w) A (pyIter (.ref l)) (fun it s₂ => LoopAtV prog w A h₀ env x body Q E it s₂) E s := by
  have hl := N _ (hJl 0 m₀ news hj)
  have hls : s.heap.IsList l ys.toArray := ⟨_, hl.1, rfl, _, rfl⟩
  have hlt : l < s.heap.objs.size := Heap.lt_size hl.1
  have hne : l ≠ s.heap.objs.size := Nat.ne_of_lt hlt
  refine wpAny_pyIter_list hls ?_
  refine ⟨s.heap.objs.size, [s.heap.objs.size, l], [s.heap.objs.size], ys.toArray.size, _, _, m₀, news, J, rfl, Walks.list hh _ l hne ys.toArray, ?_, ?_, ?_,
    ⟨⟨_, Heap.get?_push_size _ rfl, rfl, rfl⟩, hls.at fun o e => Heap.get?_push_of_some _ e⟩, F.push _, fun p hp => ⟨Heap.get?_push_of_some _ (N p hp).1, (N p hp).2⟩, hj, ?_, ?_⟩
  · intro hm
    rcases List.mem_cons.mp hm with e | hm
    · exact absurd F.ns.lt (e ▸ Nat.lt_irrefl _)
    · exact absurd (List.mem_singleton.mp hm).symm hl.2.1
  · intro b hb
    rw [List.mem_singleton.mp hb]
    exact next_is_new F
  · intro p hp hI
    exact absurd (Heap.lt_size (N p hp).1) ((List.mem_singleton.mp hI) ▸ Nat.lt_irrefl _)
  · rintro i v m₁ news₁ s₁ own ⟨hh', tk', rfl⟩ hin hP hJ hoff hown hget hall hst' F₁ N₁
    obtain ⟨oI, hoI⟩ : ∃ oI, hh'.get? s.heap.objs.size = some oI := ⟨_, hst'.1.choose_spec.1⟩
    have hIn : (s.heap.objs.size, oI) ∈ own := hall _ (List.mem_cons_self ..) (next_is_new F) oI hoI
    have N₂ : News h₀ env.locals hh' (news₁ ++ [(s.heap.objs.size, oI)]) := fun p hp => by
      rcases List.mem_append.mp hp with hp | hp
      · exact N₁ p (List.mem_append_right _ hp)
      · rw [List.mem_singleton.mp hp]
        exact N₁ _ (List.mem_append_left _ hIn)
    have hv : ys[i]? = some v := by simpa using hP
    obtain ⟨y, t, rfl, hy⟩ := IntsAre.at hS i v hv
    refine wpAny_mono (turn i y t m₁ news₁ hh' tk' oI hy hJ (fun q hq e => hoff q hq (List.mem_singleton.mpr e)) F₁ N₂) (fun f s₂ p => ?_) fun _ _ e => e
    obtain ⟨rfl, h', tk, m₂, news₂, e, F', N', hne2, hJ'⟩ := p
    refine .next ⟨rfl, h', tk, m₂, news₂, e, F', fun p hp => ?_, fun q hq hm => hne2 q hq (List.mem_singleton.mp hm), hJ'⟩
    rcases List.mem_append.mp hp with hp | hp
    · have e2 := hget p hp
      rcases List.mem_cons.mp (hown p hp) with e1 | e1
      · rw [e1] at e2
        have e3 : p = (s.heap.objs.size, oI) := by
          have : p.2 = oI := Option.some.inj (e2.symm.trans hoI)
          rw [← e1, ← this]
        rw [e3]
        exact N' _ (List.mem_append_right _ (List.mem_singleton.mpr rfl))
      · have e1 := List.mem_singleton.mp e1
        rw [e1] at e2
        have e4 := (N₂ _ (List.mem_append_left _ (hJl i m₁ news₁ hJ))).1
        have e3 : p = (l, W.listOf ys.toArray nn) := by
          have : p.2 = W.listOf ys.toArray nn := Option.some.inj (e2.symm.trans e4)
          rw [← e1, ← this]
        rw [e3]
        exact N' _ (List.mem_append_left _ (hJl _ _ _ hJ'))
    · exact N' p (List.mem_append_left _ hp)
  · intro h' tk m' news' F' N' _ hJ
    have e : ys.toArray.size = zs.length := by rw [List.size_toArray, hS.length]
    rw [e] at hJ
    exact done m' news' h' tk hJ F' N'

/-- behind i hands of the law's loop -/
def HandsJ (run : List Int) (text : List Nat) (Rn : Addr) (rest : List (Addr × Obj)) (i : Nat) (m₁ : Str → Option Value) (nx : List (Addr × Obj)) : Prop :=
  nx = rest ∧ ∃ t tt, m₁ (Str.ofString "done") = some (.str (S ((run.take i).foldl (fun t d => doneF d t) text)) t) ∧ m₁ (Str.ofString "text") = some (.str (S text) tt) ∧ m₁ (Str.ofString "run") = some (.ref Rn)
def HandsEnd (h₀ : Heap) (L Rn : Addr) (rest : List (Addr × Obj)) (out text : List Nat) (s : Shared) (f : Flow) (s₂ : Shared) : Prop :=
  f = .next ∧ ∃ (h' : Heap) (tk' : Nat) (m₂ : Str → Option Value) (t tt : Tok), s₂ = { s with heap := h', toks := tk' } ∧ Fr h₀ L h' m₂ ∧ News h₀ L h' rest ∧
    m₂ (Str.ofString "done") = some (.str (S out) t) ∧ m₂ (Str.ofString "text") = some (.str (S text) tt) ∧ m₂ (Str.ofString "run") = some (.ref Rn)
theorem handsEnd_of {h' : Heap} {L Rn : Addr} {rest : List (Addr × Obj)} {out text : List Nat} {tk' : Nat} {m₂ : Str → Option Value} {t tt : Tok} (F : Fr h₀ L h' m₂) (N : News h₀ L h' rest) (h1 : m₂ (Str.ofString "done") = some (.str (S out) t)) (h2 : m₂ (Str.ofString "text") = some (.str (S text) tt))
    (h3 : m₂ (Str.ofString "run") = some (.ref Rn)) : HandsEnd h₀ L Rn rest out text s .next { s with heap := h', toks := tk' } := ⟨rfl, h', tk', m₂, t, tt, rfl, F, N, h1, h2, h3⟩

theorem hands_loop {run : List Int} {text : List Nat} {Rn : Addr} {ys : List Value} {nn : Nat} {rest : List (Addr × Obj)} {t tt : Tok} {m₀ : Str → Option Value}
    (hh : A.handled = none) (h6 : run.length = 6) (h8 : ∀ r ∈ run, 0 ≤ r ∧ r ≤ 8) (h12 : text.length ≤ 12) (h256 : ∀ c ∈ text, c < 256) (hS : IntsAre ys run) (hm : (Rn, W.listOf ys.toArray nn) ∈ rest) (F : Fr h₀ env.locals s.heap m₀) (N : News h₀ env.locals s.heap rest)
    (hd : m₀ (Str.ofString "done") = some (.str (S text) t)) (ht : m₀ (Str.ofString "text") = some (.str (S text) tt)) (hr : m₀ (Str.ofString "run") = some (.ref Rn))
    (turn : ∀ (d : Int) (cur : List Nat) (u t tt : Tok) (m₁ : Str → Option Value) (h : Heap) (tk : Nat) (I : Addr) (oI : Obj), 0 ≤ d ∧ d ≤ 8 ∧ cur.length ≤ 150000 ∧ (R.fixE cur).length ≤ 300000 ∧ (∀ c ∈ cur, c < 256) →
      Fr h₀ env.locals h (fun z => if z = Str.ofString "hand" then some (.int d u) else if z = Str.ofString "done" then some (.str (S cur) t) else if z = Str.ofString "text" then some (.str (S text) tt) else if z = Str.ofString "run" then some (.ref Rn) else m₁ z) →
      News h₀ env.locals h (rest ++ [(I, oI)]) → wpAny (model prog w) A (execs body env) (HandsEnd h₀ env.locals Rn (rest ++ [(I, oI)]) (doneF d cur) text s) E { s with heap := h, toks := tk })
    (done : ∀ (t tt : Tok) (m₁ : Str → Option Value) (h : Heap) (tk : Nat),
      Fr h₀ env.locals h (fun z => if z = Str.ofString "done" then some (.str (S (toldF run text)) t) else if z = Str.ofString "text" then some (.str (S text) tt) else if z = Str.ofString "run" then some (.ref Rn) else m₁ z) →
      News h₀ env.locals h rest → Q .next { s with heap := h, toks := tk }) :
    wpAny (model prog w) A (pyIter (.ref Rn)) (fun it s₂ => LoopAtV prog w A h₀ env (Str.ofString "hand") body Q E it s₂) E s := by
  refine for_ints (l := Rn) (ys := ys) (nn := nn) (zs := run) (HandsJ run text Rn rest) (fun i m₁ nx hJ => hJ.1 ▸ hm) hh hS F N ⟨rfl, t, tt, hd, ht, hr⟩ (fun i n u m₁ news₁ h tk oI hn hJ hne F' N' => ?_) (fun m₁ nx h tk hJ F' N' => ?_)
  · obtain ⟨rfl, t1, t2, e1, e2, e3⟩ := hJ
    have hmem : n ∈ run := List.mem_of_getElem? hn
    have hi : i < 6 := by have := (List.getElem?_eq_some_iff.mp hn).1; omega
    rw [know_for (know_cons e1 (know_cons e2 (know_cons e3 (rfl : m₁ = m₁))))] at F'
    have hroom := fold_room (run := run) hi h256 h12
    refine wpAny_mono (turn n _ u t1 t2 m₁ h tk _ oI ⟨(h8 n hmem).1, (h8 n hmem).2, hroom⟩ F' N') (fun f s₂ hq => ?_) fun _ _ e => e
    obtain ⟨rfl, h', tk', m₂, t3, t4, e, F2, N2, g1, g2, g3⟩ := hq
    refine ⟨rfl, h', tk', m₂, _, e, F2, N2, hne, rfl, t3, t4, ?_, g2, g3⟩
    rw [List.take_add_one, hn, List.foldl_append]
    exact g1
  · obtain ⟨rfl, t1, t2, e1, e2, e3⟩ := hJ
    rw [List.take_length] at e1
    have e0 : run.foldl (fun t d => doneF d t) text = toldF run text := plain_law h6 h8 text
    rw [e0] at e1
    rw [know_cons e1 (know_cons e2 (know_cons e3 (rfl : m₁ = m₁)))] at F'
    exact done t1 t2 m₁ h tk F' N'
end

theorem eq_same {prog : Program} {w : World} {A : Around} {E : Value → Shared → Prop} {s : Shared} {a : List Nat} {t u : Tok} {Q : Value → Shared → Prop} (h : Q (.bool true) s) : wpAny (model prog w) A (compareOp .Eq (.str (S a) t) (.str (S a) u)) Q E s :=
  eq_S rfl rfl (by rw [decide_eq_true rfl]; exact h)
theorem use_c140 {text : List Nat} {t : Tok} {Lr : Addr} {rv : List Value} {rn : Nat} {run : List Int} {w : World} {s₀ : Shared} {mg mb : Str → Option Value} {all : List (Addr × Obj)} {dp un : Nat} {gd : Option (List Code)} {cn : Str} {cs : Scope} {a : Addr} {ccd : Value} {cl : List (Str × Addr)} {outer : List Env} {A₀ : Around} {base h₀ : Heap} {L : Addr} {m : Str → Option Value} {s : Shared} {Q E : Value → Shared → Prop}
    (B : Below A₀ base outer h₀) (F : Fr h₀ L s.heap m) (X : (hd.heap_39 w.params).In h₀) (N : News h₀ L s.heap all) (T : Top hd.view_39 (looseW hd.view_39 [Str.ofString "_twin_re_1", Str.ofString "_twin_re_2", Str.ofString "_twin_re_3"]) (ExcName.means s₀.heap) mg mb h₀) (hk : cs.kind = .function)
    (hm : (Lr, W.listOf rv.toArray rn) ∈ all) (hIA : IntsAre rv run) (hRL : run.length = 6) (hR8 : ∀ r ∈ run, 0 ≤ r ∧ r ≤ 8) (htl : text.length ≤ 12) (hd' : dp + 5 < recursionLimit) (hu : un + 40 < cLine)
    (hret : ∀ (t : Tok) (h' : Heap) (tk' : Nat), Fr h₀ L h' m → News h₀ L h' all → Q (.str (S (toldF run text)) t) { s with heap := h', toks := tk' }) :
    wpAny (model Challenge.rw_pe0100_01.row.prog w) (ktrTop dp un gd cn cs L a ccd cl outer) (call (.ref 140) [.str (S text) t, .ref Lr]) Q E s :=
  c140 text t Lr rv rn run w s₀ mg mb all dp un gd cn cs a ccd cl outer A₀ base h₀ L m s Q E B F X (put_in N hm) T hk hIA hRL hR8 htl hd' hu fun t' h' tk' F' N' => hret t' h' tk' F' (news_sub N' fun p hp => List.mem_cons_of_mem _ hp)
theorem run_ok {ns : List Int} (h : ∀ n ∈ ns, 0 ≤ n ∧ n < 2 ^ 40) : ∀ r ∈ ns.map fun n => (n.fdiv 13).fmod 9, 0 ≤ r ∧ r ≤ 8 := by
  intro r hr
  obtain ⟨n, _, rfl⟩ := List.mem_map.mp hr
  have h1 := Int.fmod_nonneg_of_pos (n.fdiv 13) (b := 9) (by decide)
  have h2 := Int.fmod_lt_of_pos (n.fdiv 13) (b := 9) (by decide)
  show 0 ≤ (n.fdiv 13).fmod 9 ∧ (n.fdiv 13).fmod 9 ≤ 8
  omega
end Mine
end

-- LawB
section
open PySem PySem.W PyProof.Rows PyProof.V PySem.Spec
set_option Elab.async false
set_option maxRecDepth 100000
set_option maxHeartbeats 1000000
namespace Mine
theorem own_item {a b c d e f : Tok} {i : Nat} {v : Value} (h : (#[Value.int 91 a, .int 69 b, .int 45 c, .int 83 d, .int 50 e, .int 107 f] : Array Value)[i]? = some v) : ∃ (o : Int) (tv : Tok), v = .int o tv ∧ (0 ≤ o ∧ o ≤ 107) ∧ i < 6 := by
  have hi : i < 6 := by
    have := (Array.getElem?_eq_some_iff.mp h).1
    simpa using this
  have hm : v ∈ [Value.int 91 a, .int 69 b, .int 45 c, .int 83 d, .int 50 e, .int 107 f] := List.mem_of_getElem? (i := i) (by simpa using h)
  simp only [List.mem_cons, List.not_mem_nil, or_false] at hm
  rcases hm with rfl | rfl | rfl | rfl | rfl | rfl
  · exact ⟨91, a, rfl, by decide, hi⟩
  · exact ⟨69, b, rfl, by decide, hi⟩
  · exact ⟨45, c, rfl, by decide, hi⟩
  · exact ⟨83, d, rfl, by decide, hi⟩
  · exact ⟨50, e, rfl, by decide, hi⟩
  · exact ⟨107, f, rfl, by decide, hi⟩
local macro_rules | `(tactic| walk_at "exec Assign cons ListComp") => `(tactic| (k_here; refine hold_out ?_))
local macro_rules | `(tactic| walk_at "eval ListComp") => `(tactic| (k_here; refine hold_out ?_))
local macro_rules | `(tactic| walk_at "CompSrc") => `(tactic| (k_here; refine hold_out ?_))
local macro_rules | `(tactic| walk_at "subscriptTail Name Slice ref ref") => `(tactic| (k_here; k_dflt (refine' slice_step ?k1 ?k2 ?k3 ?k4 ?k5 ?_; (case k1 => k_asm); (case k2 => k_asm); (case k3 => kmk_list); (case k4 => assumption); (case k5 => omega); k_whole); intro D' ws' ms' h' F' N' l1 hI' hM'))
local macro_rules | `(tactic| walk_at "call ref") => `(tactic| (k_here; k_dflt (refine' use_claim (c123 _ _) ?k1 ?k2 ?k3 ?k4 ?k5 ?kK ?kp ?kd ?ku ?_; (case k1 => k_asm); (case k2 => k_asm); (case k3 => k_asm); (case k4 => k_asm); (case k5 => k_asm); (case kK => first | exact rfl | assumption); (case kp => assumption); (case kd => ktr_room); (case ku => ktr_units); k_whole); intro t9 h9 tk9 F9 N9; (try dsimp only); (try k_fold)))
local macro_rules | `(tactic| walk_at "call builtin:str.join") => `(tactic| (k_here; k_dflt (refine' join_parts ?k1 ?k2 ?k3 ?k4 ?_; (case k1 => k_asm); (case k2 => k_mem); (case k3 => assumption); (case k4 => omega); k_whole); intro t' k'; (try dsimp only)))
local macro_rules | `(tactic| walk_at "call ref") => `(tactic| (k_here; k_dflt (refine' use_claimR (c128 _ _ _ _) ?k1 ?k2 ?k3 ?k4 ?k5 ?kK ?kp ?kd ?ku ?_; (case k1 => k_asm); (case k2 => k_asm); (case k3 => k_asm); (case k4 => k_asm); (case k5 => k_asm); (case kK => first | exact rfl | assumption); (case kp => assumption); (case kd => ktr_room); (case ku => ktr_units); k_whole); intro t9 h9 tk9 F9 N9; (try dsimp only); (try k_fold)))
local macro_rules | `(tactic| walk_at "call ref") => `(tactic| (k_here; k_dflt (refine' use_c140 ?k1 ?k2 ?k3 ?k4 ?k5 ?kK ?km ?ki ?kl ?k8 ?kt ?kd ?ku ?_; (case k1 => k_asm); (case k2 => k_asm); (case k3 => k_asm); (case k4 => k_asm); (case k5 => k_asm); (case kK => first | exact rfl | assumption); (case km => k_mem); (case ki => assumption); (case kl => assumption); (case k8 => assumption); (case kt => assumption); (case kd => ktr_room); (case ku => ktr_units); k_whole); intro t9 h9 tk9 F9 N9; (try dsimp only); (try k_fold)))
local macro_rules | `(tactic| walk_at "compareOp Eq str str") => `(tactic| (k_here; k_dflt (refine eq_same ?_)))
local macro_rules | `(tactic| walk_at "pyIter ref") => `(tactic| ((with_reducible show wpAny _ _ (pyIter (Value.ref _)) (fun it s₂ => LoopAtV _ _ _ _ _ _ _ _ _ it s₂) _ _); refine hold_out ?_))
local macro_rules | `(tactic| walk_at "call type:enumerate") => `(tactic| (k_here; refine hold_out ?_))
theorem law_holds : PySem.Challenge.rw_pe0100_01.Holds := hd (by
  k_go0
  dsimp only at *
  k_fold
  rename Fr _ _ _ _ => F0
  rename CellsAre _ _ _ => X0
  rename Below _ _ _ _ => K0
  rename _ = Data.cell _ => hcell
  rename News _ _ _ _ => N0
  rename Heap.IsList _ _ _ => hL
  have K1 := K0
  unfold Top.heap at K1
  clear K0
  have F1 := F0
  with_unfolding_all replace F1 : Fr _ _ _ (fun _ : Str => (none : Option Value)) := F0
  clear F0 X0
  rename Obj => ocell
  have hcell2 : ocell.data = Data.cell (some (.ref _)) := hcell
  clear hcell
  k_steps
  unfold Hold
  k_dflt (refine assign_enum F1 rfl (by with_unfolding_all rfl) (by with_unfolding_all rfl) (by decide) (by rfl) (by decide) (by rfl) (by rfl) (by decide) (by rfl) (by rfl) ?_)
  k_steps
  unfold Hold
  rename Fr _ _ _ _ => F2
  rename News _ _ _ _ => N2
  rename IntsAre _ _ => hIs
  k_dflt (refine' enum_at (fun _ y => ∃ (n : Int) (t : Tok), y = .int n t ∧ (0 ≤ n ∧ n < 2 ^ 40)) rfl F2 N2 (by k_mem) (by simp) ?turn ?fin)
  case turn =>
    intro i v t I oI J oJ C oC D m2 ys s2 h2 tk2 E2 hx hC ha hb F3 N3
    clear F2 N2
    obtain ⟨own, tv, rfl, ⟨ho1, ho2⟩, hi6⟩ := own_item hx
    clear hx
    k_steps
    unfold Hold
    k_dflt (refine LCg.ListComp_U (F₀ := F3) (by with_unfolding_all rfl) (by decide) (by rfl) (by decide) (by rfl) ?_)
    k_steps
    unfold Hold
    rename News _ _ _ _ => N4
    rename Fr _ _ _ _ => F4
    rename IntsAre _ _ => hI4
    rename _ ≤ 63 => hM4
    k_dflt (refine' LCg.CompSrc.ledger rfl F4 N4 (by k_mem) ?sz ?_)
    case sz => rw [List.size_toArray, hI4.length, sizeLine_eq]; omega
    intro g4
    k_dflt (refine' rest_any (fun n y => ∃ t, y = .int (n.fmod 1000000) t) (by rw [List.toList_toArray]; exact hI4) (by lcg_src) ?turn2 ?_)
    case turn2 =>
      intro n5 t5 I5 oI5 C5 oC5 D5 m5 ys5 h5 tk5 E5 hn5 hC5 hx5 F5 N5
      k_steps
      all_goals first | exact F5 | exact N5
    intro ys5 hE5
    have hI6 := each_ints hE5
    unfold LCg.FinE
    intro D6 h6 tk6 F6 N6 off6
    clear hE5 hI4 F4 N4 F3 N3
    k_steps
    · exact (sum_bound hM4 ho1 ho2).1
    · exact (sum_bound hM4 ho1 ho2).2
    · assumption
    · exact news_sub (by assumption) (by kcj_all)
  case fin =>
    intro D ys h2 tk2 hg hyl F3 N3 off3
    clear F2 N2
    obtain ⟨ns, hns, hns6, hnsb⟩ := ints_of_at hyl hg
    clear hg
    have hns6 : ns.length = 6 := hns6
    clear hyl
    have hp := pieces_ok ns hns6
    obtain ⟨hp1, hp2, hp3⟩ := hp
    k_steps
    unfold Hold
    k_dflt (refine LCg.ListComp_U (F₀ := F3) (by with_unfolding_all rfl) (by decide) (by rfl) (by decide) (by rfl) ?_)
    k_steps
    unfold Hold
    k_dflt (refine' LCg.CompSrc.ledger rfl F3 N3 (by k_mem) ?sz ?_)
    case sz => rw [List.size_toArray, hns.length, sizeLine_eq]; omega
    intro g4
    k_dflt (refine' rest_any (fun n y => ∃ t, y = .str (S (pieceL n)) t) (by rw [List.toList_toArray]; exact hns) (by lcg_src) ?turn2 ?_)
    case turn2 =>
      intro n5 t5 I5 oI5 C5 oC5 D5 m5 ys5 h5 tk5 E5 hn5 hC5 hx5 F5 N5
      clear F3 N3
      have hn6 := hnsb n5 hn5
      k_steps
      all_goals assumption
    intro ys5 hE5
    have hI6 := each_strs hE5
    unfold LCg.FinE
    intro D6 h6 tk6 F6 N6 off6
    clear hE5 F3 N3
    k_steps
    unfold Hold
    rename Fr _ _ _ _ => F7
    rename News _ _ _ _ => N7
    generalize (List.map pieceL ns).flatten = text at *
    clear hI6 hp1 off6
    k_dflt (refine LCg.Assign_ListComp_U (F₀ := F7) (by rfl) (by with_unfolding_all rfl) (by with_unfolding_all rfl) (by decide) (by rfl) (by decide) (by rfl) (by rfl) (by rfl) ?_)
    k_steps
    unfold Hold
    k_dflt (refine' LCg.CompSrc.ledger rfl F7 N7 (by k_mem) ?sz3 ?_)
    case sz3 => rw [List.size_toArray, hns.length, sizeLine_eq]; omega
    intro g8
    k_dflt (refine' rest_any (fun n y => ∃ t, y = .int ((n.fdiv 13).fmod 9) t) (by rw [List.toList_toArray]; exact hns) (by lcg_src) ?turn3 ?_)
    case turn3 =>
      intro n5 t5 I5 oI5 C5 oC5 D5 m5 ys5 h5 tk5 E5 hn5 hC5 hx5 F5 N5
      clear F7 N7
      have hn6 := hnsb n5 hn5
      k_steps
      all_goals first | exact F5 | exact N5
    intro ys8 hE8
    have hI8 := each_ints hE8
    have hr8 := run_ok hnsb
    have hr6 : (ns.map fun n => (n.fdiv 13).fmod 9).length = 6 := by rw [List.length_map]; exact hns6
    generalize (ns.map fun n => (n.fdiv 13).fmod 9) = run at *
    unfold LCg.FinA
    intro D8 h8 tk8 F8 N8 off8
    clear hE8 F7 N7
    k_steps
    unfold Hold
    rename Fr _ _ _ _ => F9
    rename News _ _ _ _ => N9
    k_dflt (refine' hands_loop (run := run) (text := text) (ys := ys8) rfl hr6 hr8 hp2 hp3 (by assumption) (List.mem_cons_self ..) F9 N9 rfl rfl rfl ?turn4 ?done4)
    case turn4 =>
      intro d cur u t1 t2 m4 h4 tk4 I4 oI4 hpre F4 N4
      clear F9 N9
      simp only [List.cons_append, List.nil_append] at N4
      k_steps
      exact handsEnd_of (by assumption) (by assumption) rfl rfl rfl
    case done4 =>
      intro t1 t2 m4 h4 tk4 F4 N4
      clear F9 N9
      k_steps)
end Mine
end

theorem PySem.Challenge.cw_pe0100_01_holds : PySem.Challenge.rw_pe0100_01.Holds :=
  Mine.law_holds
