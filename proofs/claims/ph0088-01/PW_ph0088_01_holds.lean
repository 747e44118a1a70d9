import PyProof.Rows.All
import Wide.All
import OpenK.AllK
import Wide.FinOn
import KE.KListMore
import PySem.Challenge.RW_ph0088_01
set_option Elab.async false
section
open PySem PySem.W PyProof.Rows
set_option Elab.async false
namespace Mine
open PySem.Sre

def reCode : Array Nat := #[14, 4, 0, 1, 4294967295, 17, 0, 7, 14, 24, 10, 1, 4294967295, 13, 5, 22, 48, 57, 0, 1, 15, 17, 15, 13, 11, 9, 0, 26624, 2147483648, 0, 0, 0, 0, 0, 0, 15, 2, 0, 17, 1, 1]

def isSep (c : Nat) : Bool := decide (c < 256) && (reCode.getD (25 + (1 + c / 32)) 0).testBit (c % 32)

theorem runFor_done (n : Nat) (m : M) (h : m.outcome.isSome = true) : m.runFor n = m := by
  cases n with
  | zero => rfl
  | succ n => rw [M.runFor, if_pos h]

theorem runFor_succ (n : Nat) (m : M) : m.runFor (n + 1) = m.step.runFor n := by
  rw [M.runFor]
  split
  · rename_i h
    have e : m.step = m := by unfold M.step; rw [if_pos h]
    rw [e, runFor_done n m h]
  · rfl

theorem runFor_add (a b : Nat) (m : M) : m.runFor (a + b) = (m.runFor a).runFor b := by
  induction a generalizing m with
  | zero => rw [Nat.zero_add]; rfl
  | succ a ih => rw [Nat.succ_add, runFor_succ, ih, runFor_succ]

theorem drive_wp {M' : Model} {A : PySem.Around} {E : Value → Shared → Prop} {s : Shared} {Q : M → Shared → Prop} :
    ∀ (turns k : Nat) (m : M), (m.runFor k).outcome.isSome = true → k ≤ 4 * turns → 0 < turns → Q (m.runFor k) s →
      wpAny M' A (Builtin.Re.reDrive turns m) Q E s
  | 0, _, _, _, _, h0, _ => absurd h0 (Nat.lt_irrefl _)
  | turns + 1, k, m, hk, hle, _, hq => by
    unfold Builtin.Re.reDrive
    show wpAny M' A (if (m.runFor 4).outcome.isSome then pure (m.runFor 4) else do rule "sre.turn"; Builtin.Re.reDrive turns (m.runFor 4)) Q E s
    by_cases h4 : (m.runFor 4).outcome.isSome = true
    · rw [if_pos h4]
      have e : m.runFor 4 = m.runFor k := by
        rcases Nat.le_total k 4 with hk4 | hk4
        · obtain ⟨d, hd⟩ := Nat.exists_eq_add_of_le hk4
          rw [hd, runFor_add, runFor_done _ _ hk]
        · obtain ⟨d, rfl⟩ := Nat.exists_eq_add_of_le hk4
          rw [runFor_add, runFor_done _ _ h4]
      rw [e]
      exact wpAny_pure hq
    · rw [if_neg h4]
      refine wpAny_bind (wpAny_rule ?_)
      have hk4 : 4 < k := by
        rcases Nat.lt_or_ge 4 k with h | h
        · exact h
        · exfalso
          obtain ⟨d, hd⟩ := Nat.exists_eq_add_of_le h
          rw [hd, runFor_add, runFor_done _ _ hk] at h4
          exact h4 hk
      obtain ⟨d, rfl⟩ := Nat.exists_eq_add_of_le (Nat.le_of_lt hk4)
      rw [runFor_add] at hk hq
      refine drive_wp turns d _ hk (by omega) (by omega) hq

theorem rules_wp {M' : Model} {A : PySem.Around} {E : Value → Shared → Prop} {s : Shared} {body : Nat → PUnit → Sem (ForInStep PUnit)} {Q : PUnit → Shared → Prop}
    (hb : ∀ i r (R : ForInStep PUnit → Shared → Prop), R (.yield ⟨⟩) s → wpAny M' A (body i r) R E s) :
    ∀ l : List Nat, Q ⟨⟩ s → wpAny M' A (forIn l PUnit.unit body) Q E s
  | [], h => by rw [List.forIn_nil]; exact wpAny_pure h
  | a :: l, h => by
    rw [List.forIn_cons]
    exact wpAny_bind (hb a _ _ (rules_wp hb l h))

theorem runToEnd_wp {M' : Model} {A : PySem.Around} {E : Value → Shared → Prop} {s : Shared} {Q : Option M → Shared → Prop} (k : Nat) (m mf : M) (e : m.runFor k = mf) (hk : k ≤ 2 ^ 64)
    (h : (mf.outcome = some .matched ∧ Q (some mf) s) ∨ (mf.outcome = some .failed ∧ Q none s)) :
    wpAny M' A (Builtin.Re.reRunToEnd m) Q E s := by
  unfold Builtin.Re.reRunToEnd
  have ho : (m.runFor k).outcome.isSome = true := by rw [e]; rcases h with ⟨h, _⟩ | ⟨h, _⟩ <;> rw [h] <;> rfl
  refine wpAny_bind (drive_wp _ k m ho (by omega) (by decide) ?_)
  rw [e]
  refine wpAny_bind ?_
  refine rules_wp (fun i r R hR => ?_) _ ?_
  · split
    · exact wpAny_bind (wpAny_rule (wpAny_pure hR))
    · exact wpAny_pure hR
  rcases h with ⟨h, hq⟩ | ⟨h, hq⟩
  · rw [h]; exact wpAny_pure hq
  · rw [h]; exact wpAny_pure hq
end Mine
end
section
open PySem PySem.W PyProof.Rows
set_option Elab.async false
namespace Mine
open PySem.Sre

@[reducible] def reM (t : Array Nat) (s h : Nat) (o : Bool) (mk : Array (Option Nat)) (fr : List Sre.Frame) (wt pc pos : Nat) (lm li : Int) (ans : Option Bool) (sn : Sre.Seen) (oc : Option Sre.Outcome) : M :=
  { code := reCode, text := t, lim := t.size, start := s, lastStart := t.size, wholeText := false, mustAdvance := false, pc := pc, pos := pos, handed := h, outermost := o, marks := mk, lastmark := lm, lastindex := li, loops := #[], inner := none, frames := fr, weight := wt, answer := ans, seen := sn, outcome := oc }

section
variable {t : Array Nat} {s h pos wt : Nat} {o : Bool} {mk : Array (Option Nat)} {fr : List Sre.Frame} {lm li : Int} {sn : Sre.Seen}

theorem st_mark0 : (reM t s h o mk fr wt 5 pos (-1) li none sn none).step = reM t s h o (mk.setIfInBounds 0 (some pos)) fr wt 7 pos 0 li none (sn.add 17) none := rfl
theorem st_branch : (reM t s h o mk fr 1 7 pos 0 li none sn none).step =
  reM t s pos o mk ({ wait := .nextBranch, pc := 8, pos := pos, outermost := o, kept := { lastmark := 0, lastindex := li } } :: fr) 2 9 pos 0 li none (sn.add 7) none := rfl
theorem st_rep_none (hp : ¬ pos < t.size) : (reM t s h o mk fr wt 9 pos lm li none sn none).step = reM t s h o mk fr wt 9 pos lm li (some false) (sn.add 24) none := by
  show (if ((1 : Nat) : Int) > (t.size : Int) - pos then _ else _) = _
  rw [if_pos (by omega)]
  rfl
theorem st_rep {n : Nat} {sn' : Sre.Seen} (hp : pos < t.size) (hr : Sre.run reCode t 13 (min 4294967295 ((t.size : Int) - pos).toNat) pos 0 ((sn.add 24).add 13) = .ok (n, sn')) :
    (reM t s h o mk fr wt 9 pos lm li none sn none).step = if n < 1 then reM t s h o mk fr wt 9 pos lm li (some false) sn' none
      else ({ reM t s h o mk fr wt 9 (pos + n) lm li none sn' none with : M }).afterRun .giveBack n { lastmark := lm, lastindex := li } := by
  show (if ((1 : Nat) : Int) > (t.size : Int) - pos then _ else _) = _
  rw [if_neg (by omega)]
  show (match Sre.run reCode t 13 (min 4294967295 ((t.size : Int) - pos).toNat) pos 0 ((sn.add 24).add 13) with | .error why => _ | .ok (n, seen) => _) = _
  rw [hr]
  rfl
theorem st_after {n : Nat} : ({ reM t s h o mk fr 2 9 pos lm li none sn none with : M }).afterRun .giveBack n { lastmark := lm, lastindex := li } =
    reM t s pos o mk ({ wait := .giveBack, pc := 9, pos := pos, outermost := o, count := n, kept := { lastmark := lm, lastindex := li } } :: fr) 3 20 pos lm li none sn none := rfl
theorem st_jump20 : (reM t s h o mk fr wt 20 pos lm li none sn none).step = reM t s h o mk fr wt 38 pos lm li none (sn.add 15) none := rfl
theorem st_jump35 : (reM t s h o mk fr wt 35 pos lm li none sn none).step = reM t s h o mk fr wt 38 pos lm li none (sn.add 15) none := rfl
theorem st_mark1 : (reM t s h o mk fr wt 38 pos 0 li none sn none).step = reM t s h o (mk.setIfInBounds 1 (some pos)) fr wt 40 pos 1 1 none (sn.add 17) none := by
  have e : (reM t s h o mk fr wt 38 pos 0 li none sn none).step = (M.mark (reM t s h o mk fr wt 38 pos 0 li none (sn.add 17) none) 1) := rfl
  rw [e]
  unfold M.mark
  have e2 : max (0 : Int) 1 = 1 := by decide
  simp
  exact e2
theorem st_success : (reM t s h o mk fr wt 40 pos lm li none sn none).step = reM t s pos o mk fr wt 40 pos lm li (some true) (sn.add 1) none := by
  show (if (o && ((false && _) || (false && _))) = true then _ else _) = _
  rw [if_neg (by simp)]
  rfl
theorem st_in_none (hp : ¬ pos < t.size) : (reM t s h o mk fr wt 23 pos lm li none sn none).step = reM t s h o mk fr wt 23 pos lm li (some false) (sn.add 13) none := by
  show (if pos ≥ t.size then _ else _) = _
  rw [if_pos (by omega)]
  rfl
theorem st_in {b : Bool} {sn' : Sre.Seen} (hp : pos < t.size) (hr : Sre.accepts reCode 23 (t.getD pos 0) (sn.add 13) = .ok (b, sn')) : (reM t s h o mk fr wt 23 pos lm li none sn none).step =
    if b then reM t s h o mk fr wt 35 (pos + 1) lm li none sn' none else reM t s h o mk fr wt 23 pos lm li (some false) sn' none := by
  show (if pos ≥ t.size then _ else _) = _
  rw [if_neg (by omega)]
  show (match Sre.accepts reCode 23 (t.getD pos 0) (sn.add 13) with | .error why => _ | .ok (false, seen) => _ | .ok (true, seen) => _) = _
  rw [hr]
  cases b <;> rfl
theorem st_nb8 {o' : Bool} {pc' : Nat} {pos' : Nat} {lm' li' : Int} : (reM t s h o mk ({ wait := .nextBranch, pc := 8, pos := pos, outermost := o', kept := { lastmark := 0, lastindex := -1 } } :: fr) 2 pc' pos' lm' li' (some false) sn none).step =
    reM t s pos o' mk ({ wait := .nextBranch, pc := 22, pos := pos, outermost := o', kept := { lastmark := 0, lastindex := -1 } } :: fr) 2 23 pos 0 (-1) none sn none := rfl
theorem st_nb22 {o' : Bool} {pc' : Nat} {pos' : Nat} {lm' li' : Int} : (reM t s h o mk ({ wait := .nextBranch, pc := 22, pos := pos, outermost := o', kept := { lastmark := 0, lastindex := -1 } } :: fr) 2 pc' pos' lm' li' (some false) sn none).step =
    reM t s h o' mk fr 1 22 pos 0 (-1) (some false) sn none := rfl
theorem st_ns {o' : Bool} {pc' : Nat} {pos' : Nat} {lm' li' : Int} (hp : pos < t.size) : (reM t s h o mk [{ wait := .nextStart, pc := 5, pos := pos, outermost := o' }] 1 pc' pos' lm' li' (some false) sn none).step =
    reM t (pos + 1) (pos + 1) false mk [{ wait := .nextStart, pc := 5, pos := pos + 1, outermost := false }] 1 5 (pos + 1) (-1) (-1) none sn none := by
  show (if pos < t.size then _ else _) = _
  rw [if_pos hp]
  rfl
theorem st_ns_end {o' : Bool} {pc' : Nat} {pos' : Nat} {lm' li' : Int} (hp : ¬ pos < t.size) : (reM t s h o mk [{ wait := .nextStart, pc := 5, pos := pos, outermost := o' }] 1 pc' pos' lm' li' (some false) sn none).step =
    reM t s h o' mk [] 0 5 pos lm' li' (some false) sn none := by
  show (if pos < t.size then _ else _) = _
  rw [if_neg hp]
  rfl
theorem st_yes {f : Sre.Frame} (hw : f.wait = .nextStart ∨ f.wait = .nextBranch ∨ f.wait = .giveBack) (hk : f.kept.marks.size = 0) {pc' : Nat} {pos' : Nat} {lm' li' : Int} :
    (reM t s h o mk (f :: fr) (wt + 1) pc' pos' lm' li' (some true) sn none).step = reM t s h f.outermost mk fr wt f.pc f.pos lm' li' (some true) sn none := by
  obtain ⟨w, pc, ps, om, c, k, l, b⟩ := f
  show (M.resume { reM t s h o mk (_ :: fr) (wt + 1) pc' pos' lm' li' (some true) sn none with answer := none, frames := fr, weight := wt + 1 - (1 + k.marks.size), pc := pc, pos := ps, outermost := om } _ true) = _
  simp only at hk hw
  rw [show wt + 1 - (1 + k.marks.size) = wt by omega]
  rcases hw with rfl | rfl | rfl <;> rfl
theorem st_end {b : Bool} : (reM t s h o mk [] wt 5 pos lm li (some b) sn none).step = reM t s h o mk [] wt 5 pos lm li (some b) sn (some (if b then .matched else .failed)) := rfl
end
end Mine
end
section
open PySem PySem.W PyProof.Rows
set_option Elab.async false
namespace Mine
open PySem.Sre

theorem acc_digit (c : Nat) (sn : Sre.Seen) : ∃ sn', Sre.accepts reCode 13 c sn = .ok (Sre.isDigit c, sn') := by
  show ∃ sn', Sre.inSet reCode c 41 15 true sn = .ok (Sre.isDigit c, sn')
  rw [Sre.inSet]
  show ∃ sn', (if (decide (48 ≤ c) && decide (c ≤ 57)) = true then (Except.ok (true, sn.add 22) : Except String (Bool × Sre.Seen)) else Sre.inSet reCode c 40 18 true (sn.add 22)) = .ok (Sre.isDigit c, sn')
  unfold Sre.isDigit
  cases hb : (decide (48 ≤ c) && decide (c ≤ 57)) with
  | true => exact ⟨_, rfl⟩
  | false => exact ⟨_, rfl⟩

theorem acc_sep (c : Nat) (sn : Sre.Seen) : ∃ sn', Sre.accepts reCode 23 c sn = .ok (isSep c, sn') := by
  show ∃ sn', Sre.inSet reCode c 41 25 true sn = .ok (isSep c, sn')
  rw [Sre.inSet]
  show ∃ sn', (if (decide (c < 256) && (reCode.getD (25 + (1 + c / 32)) 0).testBit (c % 32)) = true then (Except.ok (true, sn.add 9) : Except String (Bool × Sre.Seen)) else Sre.inSet reCode c 40 34 true (sn.add 9)) = .ok (isSep c, sn')
  unfold isSep
  cases hb : (decide (c < 256) && (reCode.getD (25 + (1 + c / 32)) 0).testBit (c % 32)) with
  | true => exact ⟨_, rfl⟩
  | false => exact ⟨_, rfl⟩

/-- how many digits stand from p on, of n places at most -/
def digs (t : Array Nat) : Nat → Nat → Nat
  | 0, _ => 0
  | n + 1, p => if Sre.isDigit (t.getD p 0) then digs t n (p + 1) + 1 else 0

theorem run_digs (t : Array Nat) : ∀ (n p f : Nat) (sn : Sre.Seen), ∃ sn', Sre.run reCode t 13 n p f sn = .ok (f + digs t n p, sn')
  | 0, p, f, sn => ⟨sn, rfl⟩
  | n + 1, p, f, sn => by
    obtain ⟨sn1, h1⟩ := acc_digit (t.getD p 0) sn
    rw [Sre.run, h1]
    show ∃ sn', (if Sre.isDigit (t.getD p 0) = true then Sre.run reCode t 13 n (p + 1) (f + 1) sn1 else .ok (f, sn1)) = .ok (f + digs t (n + 1) p, sn')
    rw [digs]
    split
    · rename_i hd
      obtain ⟨sn2, h2⟩ := run_digs t n (p + 1) (f + 1) sn1
      exact ⟨sn2, by rw [h2, Nat.add_assoc, Nat.add_comm 1]⟩
    · exact ⟨sn1, rfl⟩

abbrev digsAll (t : Array Nat) (p : Nat) : Nat := digs t (t.size - p) p

theorem run_all {t : Array Nat} (hs : t.size < 4294967295) (p : Nat) (sn : Sre.Seen) : ∃ sn', Sre.run reCode t 13 (min 4294967295 ((t.size : Int) - p).toNat) p 0 sn = .ok (digsAll t p, sn') := by
  have e : min 4294967295 ((t.size : Int) - p).toNat = t.size - p := by omega
  rw [e]
  obtain ⟨sn', h⟩ := run_digs t (t.size - p) p 0 sn
  exact ⟨sn', by rw [h, Nat.zero_add]⟩

/-- a fresh attempt at place p -/
abbrev atM (t : Array Nat) (p : Nat) (o : Bool) (mk : Array (Option Nat)) (sn : Sre.Seen) : M :=
  reM t p p o mk [{ wait := .nextStart, pc := 5, pos := p, outermost := o }] 1 5 p (-1) (-1) none sn none

/-- what a found match says -/
structure Hit (t : Array Nat) (b e : Nat) (m : M) : Prop where
  out : m.outcome = some .matched
  start : m.start = b
  handed : m.handed = e
  lm : m.lastmark = 1
  marks : m.marks = #[some b, some e]

theorem step_n {m m' : M} {n : Nat} {mf : M} (h : m.step = m') (r : m'.runFor n = mf) : m.runFor (n + 1) = mf := by rw [runFor_succ, h]; exact r

theorem hit_digits {t : Array Nat} {p : Nat} {o : Bool} {x y : Option Nat} {sn : Sre.Seen} (hs : t.size < 4294967295) (hp : p < t.size) (hd : Sre.isDigit (t.getD p 0) = true) :
    ∃ mf, (atM t p o #[x, y] sn).runFor 10 = mf ∧ Hit t p (p + digsAll t p) mf := by
  have hn : 1 ≤ digsAll t p := by
    show 1 ≤ digs t (t.size - p) p
    obtain ⟨k, hk⟩ : ∃ k, t.size - p = k + 1 := ⟨t.size - p - 1, by omega⟩
    rw [hk, digs, if_pos hd]
    exact Nat.succ_le_succ (Nat.zero_le _)
  obtain ⟨sn', hr⟩ := run_all hs p (((sn.add 17).add 7).add 24 |>.add 13)
  refine ⟨_, step_n st_mark0 (step_n st_branch (step_n ((st_rep hp hr).trans ((if_neg (by omega)).trans st_after)) (step_n st_jump20 (step_n st_mark1 (step_n st_success
    (step_n (st_yes (.inr (.inr rfl)) rfl) (step_n (st_yes (.inr (.inl rfl)) rfl) (step_n (st_yes (.inl rfl) rfl) (step_n st_end rfl))))))))), ?_⟩
  exact ⟨rfl, rfl, rfl, rfl, rfl⟩

theorem hit_sep {t : Array Nat} {p : Nat} {o : Bool} {x y : Option Nat} {sn : Sre.Seen} (hs : t.size < 4294967295) (hp : p < t.size) (hd : Sre.isDigit (t.getD p 0) = false) (hc : isSep (t.getD p 0) = true) :
    ∃ mf, (atM t p o #[x, y] sn).runFor 11 = mf ∧ Hit t p (p + 1) mf := by
  have hn : digsAll t p = 0 := by
    show digs t (t.size - p) p = 0
    obtain ⟨k, hk⟩ : ∃ k, t.size - p = k + 1 := ⟨t.size - p - 1, by omega⟩
    rw [hk, digs, if_neg (by rw [hd]; exact Bool.false_ne_true)]
  obtain ⟨sn', hr⟩ := run_all hs p (((sn.add 17).add 7).add 24 |>.add 13)
  obtain ⟨sn2, ha⟩ := acc_sep (t.getD p 0) (sn'.add 13)
  rw [hc] at ha
  refine ⟨_, step_n st_mark0 (step_n st_branch (step_n ((st_rep hp hr).trans (if_pos (by omega))) (step_n st_nb8 (step_n ((st_in hp ha).trans (if_pos rfl)) (step_n st_jump35 (step_n st_mark1 (step_n st_success
    (step_n (st_yes (.inr (.inl rfl)) rfl) (step_n (st_yes (.inl rfl) rfl) (step_n st_end rfl)))))))))), ?_⟩
  exact ⟨rfl, rfl, rfl, rfl, rfl⟩

theorem miss_next {t : Array Nat} {p : Nat} {o : Bool} {x y : Option Nat} {sn : Sre.Seen} (hs : t.size < 4294967295) (hp : p < t.size) (hd : Sre.isDigit (t.getD p 0) = false) (hc : isSep (t.getD p 0) = false) :
    ∃ x' sn', (atM t p o #[x, y] sn).runFor 7 = atM t (p + 1) false #[x', y] sn' := by
  have hn : digsAll t p = 0 := by
    show digs t (t.size - p) p = 0
    obtain ⟨k, hk⟩ : ∃ k, t.size - p = k + 1 := ⟨t.size - p - 1, by omega⟩
    rw [hk, digs, if_neg (by rw [hd]; exact Bool.false_ne_true)]
  obtain ⟨sn', hr⟩ := run_all hs p (((sn.add 17).add 7).add 24 |>.add 13)
  obtain ⟨sn2, ha⟩ := acc_sep (t.getD p 0) (sn'.add 13)
  rw [hc] at ha
  exact ⟨some p, _, step_n st_mark0 (step_n st_branch (step_n ((st_rep hp hr).trans (if_pos (by omega))) (step_n st_nb8 (step_n ((st_in hp ha).trans (if_neg (by simp))) (step_n st_nb22 (step_n (st_ns hp) rfl))))))⟩

theorem miss_end {t : Array Nat} {p : Nat} {o : Bool} {x y : Option Nat} {sn : Sre.Seen} (hp : ¬ p < t.size) :
    ∃ mf, (atM t p o #[x, y] sn).runFor 8 = mf ∧ mf.outcome = some .failed := by
  refine ⟨_, step_n st_mark0 (step_n st_branch (step_n (st_rep_none hp) (step_n st_nb8 (step_n (st_in_none hp) (step_n st_nb22 (step_n (st_ns_end hp) (step_n st_end rfl))))))), rfl⟩

/-- the place at which the search from p ends: the first digit or sign, or the end -/
def firstAt (t : Array Nat) : Nat → Nat → Nat
  | 0, p => p
  | n + 1, p => if Sre.isDigit (t.getD p 0) || isSep (t.getD p 0) then p else firstAt t n (p + 1)

def hitEnd (t : Array Nat) (q : Nat) : Nat := if Sre.isDigit (t.getD q 0) then q + digsAll t q else q + 1

theorem search_run (t : Array Nat) (hs : t.size < 4294967295) : ∀ (n p : Nat) (o : Bool) (x y : Option Nat) (sn : Sre.Seen), p + n = t.size →
    ∃ k mf, k ≤ 7 * n + 11 ∧ (atM t p o #[x, y] sn).runFor k = mf ∧
      ((firstAt t n p < t.size ∧ Hit t (firstAt t n p) (hitEnd t (firstAt t n p)) mf) ∨ (¬ firstAt t n p < t.size ∧ mf.outcome = some .failed))
  | 0, p, o, x, y, sn, e => by
    obtain ⟨mf, h1, h2⟩ := miss_end (t := t) (p := p) (o := o) (x := x) (y := y) (sn := sn) (by omega)
    exact ⟨8, mf, by omega, h1, .inr ⟨by rw [firstAt]; omega, h2⟩⟩
  | n + 1, p, o, x, y, sn, e => by
    have hp : p < t.size := by omega
    cases hd : Sre.isDigit (t.getD p 0) with
    | true =>
      obtain ⟨mf, h1, h2⟩ := hit_digits (t := t) (p := p) (o := o) (x := x) (y := y) (sn := sn) hs hp hd
      refine ⟨10, mf, by omega, h1, .inl ?_⟩
      rw [firstAt, hd, Bool.true_or, if_pos rfl, hitEnd, hd, if_pos rfl]
      exact ⟨hp, h2⟩
    | false =>
      cases hc : isSep (t.getD p 0) with
      | true =>
        obtain ⟨mf, h1, h2⟩ := hit_sep (t := t) (p := p) (o := o) (x := x) (y := y) (sn := sn) hs hp hd hc
        refine ⟨11, mf, by omega, h1, .inl ?_⟩
        rw [firstAt, hd, hc, Bool.false_or, if_pos rfl, hitEnd, hd, if_neg (by simp)]
        exact ⟨hp, h2⟩
      | false =>
        obtain ⟨x', sn', h1⟩ := miss_next (t := t) (p := p) (o := o) (x := x) (y := y) (sn := sn) hs hp hd hc
        obtain ⟨k, mf, hk, h2, h3⟩ := search_run t hs n (p + 1) false x' y sn' (by omega)
        refine ⟨7 + k, mf, by omega, by rw [runFor_add, h1, h2], ?_⟩
        rw [firstAt, hd, hc, Bool.false_or, if_neg (by simp)]
        exact h3
end Mine
end
section
open PySem PySem.W PyProof.Rows
set_option Elab.async false
set_option maxRecDepth 100000
namespace Mine
open PySem.Sre

theorem slot_re_split : Slot "re.Pattern" "split" "re.Pattern.split" :=
  .of (owner := "re.Pattern") (n := "split") (by rw [typeLookup_type, builtinLookup_eq_fast]; kernel_rfl) (by decide +kernel) (by decide +kernel) (by decide +kernel)
    (by first | exact .inl (by decide +kernel) | exact .inr (by decide +kernel)) (by rw [isSubtype_type]; kernel_rfl)
theorem entry_re_split : entryFor table "re.Pattern.split" = some Builtin.«re.Pattern.split» := entryFor_of_tree (by kernel_rfl)
theorem plainAttrs_re : PlainAttrs "re.Pattern" :=
  ⟨⟨"object.__getattribute__", by rw [typeLookup_type, builtinLookup_eq_fast]; kernel_rfl, by decide +kernel⟩, by rw [typeLookup_type, builtinLookup_eq_fast]; kernel_rfl⟩
theorem ty_re_split : typeOf (.builtin "re.Pattern.split") = pure (.type "method_descriptor") := by kernel_rfl
theorem args_re_split (a b : Value) : argsOk "re.Pattern.split" ⟨[a, b], []⟩ := by
  unfold argsOk; kernel_rfl

theorem nextFound_wp {M' : Model} {A : PySem.Around} {E : Value → Shared → Prop} {s : Shared} {Q : Option M → Shared → Prop} {pat str : Value} {t : Array Nat} {k pos₀ : Nat} (p : Nat) (hp : p ≤ t.size) (hs : t.size < 16777217)
    (h : if firstAt t (t.size - p) p < t.size then ∀ mf, Hit t (firstAt t (t.size - p) p) (hitEnd t (firstAt t (t.size - p) p)) mf → Q (some mf) s else Q none s) :
    wpAny M' A (Builtin.Re.reNextFound { pattern := pat, string := str, code := reCode, text := t, kind := k, groups := 1, pos := pos₀, lim := t.size } p false) Q E s := by
  unfold Builtin.Re.reNextFound
  by_cases hpe : p = t.size
  · subst hpe
    have e0 : firstAt t (t.size - t.size) t.size = t.size := by rw [Nat.sub_self]; rfl
    rw [e0, if_neg (Nat.lt_irrefl _)] at h
    refine runToEnd_wp 1 _ _ rfl (by decide) (.inr ⟨?_, h⟩)
    show (M.runFor 1 (Sre.forSearch reCode t 1 t.size t.size false)).outcome = _
    unfold Sre.forSearch
    dsimp only
    rw [if_pos (by simp; exact Nat.zero_lt_one)]
    rfl
  · have hlt : p < t.size := by omega
    have e1 : Sre.forSearch reCode t 1 p t.size false = atM t p true #[none, none] (({} : Sre.Seen).add 14) := by
      unfold Sre.forSearch
      dsimp only
      rw [if_neg (by simp [show (Sre.header reCode).1 = 1 from rfl]; omega)]
      rfl
    obtain ⟨n, hn⟩ : ∃ n, p + n = t.size := ⟨t.size - p, by omega⟩
    have en : t.size - p = n := by omega
    rw [en] at h
    obtain ⟨k', mf, hk', hr, hc⟩ := search_run t (by omega) n p true none none (({} : Sre.Seen).add 14) hn
    refine runToEnd_wp k' _ mf (by rw [← hr]; exact congrArg _ e1) (by omega) ?_
    rcases hc with ⟨h1, h2⟩ | ⟨h1, h2⟩
    · rw [if_pos h1] at h
      exact .inl ⟨h2.out, h mf h2⟩
    · rw [if_neg h1] at h
      exact .inr ⟨h2, h⟩
end Mine
end
section
open PySem PySem.W PyProof.Rows
set_option Elab.async false
set_option maxRecDepth 100000
namespace Mine
open PySem.Sre

/-- values that are these texts -/
inductive SV : List Value → List Str → Prop
  | nil : SV [] []
  | cons {x : Str} {t : Tok} {vs : List Value} {xs : List Str} : SV vs xs → SV (.str x t :: vs) (x :: xs)
theorem SV.append {vs ws : List Value} {xs ys : List Str} (h : SV vs xs) (k : SV ws ys) : SV (vs ++ ws) (xs ++ ys) := by
  induction h with
  | nil => exact k
  | cons _ ih => exact .cons ih
theorem SV.one (x : Str) (t : Tok) : SV [.str x t] [x] := .cons .nil
theorem SV.length {vs : List Value} {xs : List Str} (h : SV vs xs) : vs.length = xs.length := by
  induction h with
  | nil => rfl
  | cons _ ih => simp [ih]

theorem firstAt_ge (t : Array Nat) : ∀ n p, p ≤ firstAt t n p
  | 0, p => Nat.le_refl p
  | n + 1, p => by
    rw [firstAt]; split
    · exact Nat.le_refl p
    · exact Nat.le_trans (Nat.le_succ p) (firstAt_ge t n (p + 1))
theorem firstAt_le (t : Array Nat) : ∀ n p, firstAt t n p ≤ p + n
  | 0, p => Nat.le_refl p
  | n + 1, p => by
    rw [firstAt]; split
    · omega
    · have := firstAt_le t n (p + 1); omega
theorem digs_le (t : Array Nat) : ∀ n p, digs t n p ≤ n
  | 0, _ => Nat.le_refl _
  | n + 1, p => by
    rw [digs]; split
    · have := digs_le t n (p + 1); omega
    · omega
theorem hitEnd_gt (t : Array Nat) (q : Nat) (hq : q < t.size) : q < hitEnd t q := by
  unfold hitEnd
  by_cases hd : Sre.isDigit (t.getD q 0) = true
  · rw [if_pos hd]
    have : 1 ≤ digs t (t.size - q) q := by
      obtain ⟨k, hk⟩ : ∃ k, t.size - q = k + 1 := ⟨t.size - q - 1, by omega⟩
      rw [hk, digs, if_pos hd]
      exact Nat.succ_le_succ (Nat.zero_le _)
    show q < q + digs t (t.size - q) q
    omega
  · rw [if_neg hd]; omega
theorem hitEnd_le (t : Array Nat) (q : Nat) (hq : q < t.size) : hitEnd t q ≤ t.size := by
  unfold hitEnd
  by_cases hd : Sre.isDigit (t.getD q 0) = true
  · rw [if_pos hd]
    have := digs_le t (t.size - q) q
    show q + digs t (t.size - q) q ≤ t.size
    omega
  · rw [if_neg hd]; omega

abbrev ext (t : Array Nat) (b e : Nat) : Str := ⟨t.extract b e⟩
abbrev nextQ (t : Array Nat) (st : Nat) : Nat := firstAt t (t.size - st) st
/-- what split hands back -/
def toks (t : Array Nat) : Nat → Nat → List Str
  | 0, st => [ext t st t.size]
  | f + 1, st => if nextQ t st < t.size then ext t st (nextQ t st) :: ext t (nextQ t st) (hitEnd t (nextQ t st)) :: toks t f (hitEnd t (nextQ t st)) else [ext t st t.size]

theorem toks_fuel (t : Array Nat) : ∀ f g st, t.size - st ≤ f → t.size - st ≤ g → st ≤ t.size → toks t f st = toks t g st
  | 0, 0, _, _, _, _ => rfl
  | 0, g + 1, st, h1, _, h3 => by
    have e : st = t.size := by omega
    subst e
    have : nextQ t t.size = t.size := by unfold nextQ; rw [Nat.sub_self]; rfl
    rw [toks, toks, if_neg (by rw [this]; exact Nat.lt_irrefl _)]
  | f + 1, 0, st, _, h2, h3 => by
    have e : st = t.size := by omega
    subst e
    have : nextQ t t.size = t.size := by unfold nextQ; rw [Nat.sub_self]; rfl
    rw [toks, toks, if_neg (by rw [this]; exact Nat.lt_irrefl _)]
  | f + 1, g + 1, st, h1, h2, h3 => by
    rw [toks, toks]
    split
    · rename_i hq
      have a := hitEnd_gt t _ hq
      have b := hitEnd_le t _ hq
      have c := firstAt_ge t (t.size - st) st
      have c' : st ≤ nextQ t st := c
      rw [toks_fuel t f g _ (by omega) (by omega) b]
    · rfl

theorem toks_length (t : Array Nat) : ∀ f st, (toks t f st).length ≤ 2 * f + 1
  | 0, st => by simp [toks]
  | f + 1, st => by
    rw [toks]; split
    · have := toks_length t f (hitEnd t (nextQ t st))
      simp only [List.length_cons]; omega
    · simp

abbrev SpS := Array Value × Nat × Nat × Bool × Int × Bool

theorem over_loop {M' : Model} {A : PySem.Around} {E : Value → Shared → Prop} {s : Shared} {body : Nat → SpS → Sem (ForInStep SpS)} {R : SpS → Shared → Prop} {z : SpS}
    (hb : ∀ i (R' : ForInStep SpS → Shared → Prop) s, R' (.yield z) s → wpAny M' A (body i z) R' E s) : ∀ (l : List Nat), R z s → wpAny M' A (forIn l z body) R E s
  | [], h => by rw [List.forIn_nil]; exact wpAny_pure h
  | a :: l, h => by rw [List.forIn_cons]; exact wpAny_bind (hb a _ s (over_loop hb l h))

theorem split_loop {M' : Model} {A : PySem.Around} {E : Value → Shared → Prop} {t : Array Nat} {body : Nat → SpS → Sem (ForInStep SpS)} {R : SpS → Shared → Prop}
    (hb : ∀ i out st n (R' : ForInStep SpS → Shared → Prop) s, st ≤ t.size →
      (if nextQ t st < t.size then ∀ t1 t2 tk', R' (.yield ((out.push (.str (ext t st (nextQ t st)) t1)).push (.str (ext t (nextQ t st) (hitEnd t (nextQ t st))) t2), hitEnd t (nextQ t st), hitEnd t (nextQ t st), false, n + 1, false)) { s with toks := tk' }
        else R' (.yield (out, st, st, false, n, true)) s) → wpAny M' A (body i (out, st, st, false, n, false)) R' E s)
    (ho : ∀ i out st n (R' : ForInStep SpS → Shared → Prop) s, R' (.yield (out, st, st, false, n, true)) s → wpAny M' A (body i (out, st, st, false, n, true)) R' E s) :
    ∀ (l : List Nat) (out : Array Value) (st : Nat) (n : Int) (s : Shared) (pre : List Str), st ≤ t.size → t.size - st < l.length → SV out.toList pre →
      (∀ out' st' n' tk' pre', SV out'.toList pre' → pre' ++ [ext t st' t.size] = pre ++ toks t (t.size - st) st → R (out', st', st', false, n', true) { s with toks := tk' }) →
      wpAny M' A (forIn l (out, st, st, false, n, false) body) R E s
  | [], _, _, _, _, _, _, h, _, _ => absurd h (Nat.not_lt_zero _)
  | a :: l, out, st, n, s, pre, hst, hl, hsv, k => by
    rw [List.forIn_cons]
    refine wpAny_bind (hb a out st n _ s hst ?_)
    have et : toks t (t.size - st) st = toks t (t.size - st + 1) st := toks_fuel t _ _ st (Nat.le_refl _) (Nat.le_succ _) hst
    rw [et, toks] at k
    by_cases hq : nextQ t st < t.size
    · rw [if_pos hq]
      intro t1 t2 tk'
      have a1 := hitEnd_gt t _ hq
      have b1 := hitEnd_le t _ hq
      have c1 : st ≤ nextQ t st := firstAt_ge t (t.size - st) st
      rw [if_pos hq] at k
      refine split_loop hb ho l _ _ (n + 1) { s with toks := tk' } (pre ++ [ext t st (nextQ t st), ext t (nextQ t st) (hitEnd t (nextQ t st))]) b1 (by simp only [List.length_cons] at hl; omega) ?_ ?_
      · simp only [Array.toList_push, List.append_assoc]
        exact hsv.append (.cons (.cons .nil))
      · intro out' st' n' tk2 pre' h1 h2
        refine k out' st' n' tk2 pre' h1 ?_
        rw [h2, List.append_assoc, toks_fuel t (t.size - hitEnd t (nextQ t st)) (t.size - st) _ (Nat.le_refl _) (by omega) b1]
        rfl
    · rw [if_neg hq]
      rw [if_neg hq] at k
      exact over_loop (fun i R' s' h => ho i _ _ _ R' s' h) l (k out st n s.toks pre hsv rfl)

def patObj (tk₁ tk₂ : Tok) (ca : Addr) : Obj := { cls := .type "re.Pattern", data := .fields #[.str (Str.ofString "([0-9]+|[._+-])") tk₁, .int 32 tk₂, .int 1 0, .none, .none, .ref ca, .int 0 0] }
def codeVals : Array Value := #[.int 14 0, .int 4 0, .int 0 0, .int 1 0, .int 4294967295 0, .int 17 0, .int 0 0, .int 7 0, .int 14 0, .int 24 0, .int 10 0, .int 1 0, .int 4294967295 0, .int 13 0, .int 5 0, .int 22 0, .int 48 0, .int 57 0, .int 0 0, .int 1 0, .int 15 0, .int 17 0, .int 15 0, .int 13 0, .int 11 0, .int 9 0, .int 0 0, .int 26624 0, .int 2147483648 0, .int 0 0, .int 0 0, .int 0 0, .int 0 0, .int 0 0, .int 0 0, .int 15 0, .int 2 0, .int 0 0, .int 17 0, .int 1 0, .int 1 0]
def codeTup : Obj := { cls := .type "tuple", data := .seq codeVals }

theorem code_back : Array.map (fun x : Int => x.toNat) (Array.map Builtin.Re.reRawOf ((some codeVals).getD #[])) = reCode := by decide +kernel

theorem slice_wp {M' : Model} {A : PySem.Around} {E : Value → Shared → Prop} {s : Shared} {Q : Value → Shared → Prop} {t : Array Nat} {b e : Nat} (hs : t.size ≤ 1000) (h : Q (.str (ext t b e) s.toks) { s with toks := s.toks + 1 }) :
    wpAny M' A (Builtin.Re.reSlice t 0 b e) Q E s := by
  unfold Builtin.Re.reSlice
  rw [if_pos (by rfl)]
  refine wpAny_mkStr ?_ ?_
  all_goals first | exact h | skip
  show (t.extract b e).size ≤ sizeLine
  rw [Array.size_extract, sizeLine_eq]
  omega

set_option maxHeartbeats 1000000 in
theorem split_wp {prog : Program} {w : World} {A : PySem.Around} {E : Value → Shared → Prop} {s : Shared} {pa ca : Addr} {t1 t2 tk : Tok} {x : Str} {Q : Value → Shared → Prop}
    (hp : s.heap.get? pa = some (patObj t1 t2 ca)) (hc : s.heap.get? ca = some codeTup) (hx : x.cps.size ≤ 1000)
    (h : ∀ vs tk', SV vs (toks x.cps x.cps.size 0) → Q (.ref s.heap.objs.size) { s with heap := s.heap.push { cls := .type "list", data := .seq vs.toArray }, toks := tk' }) :
    wpAny (model prog w) A (Builtin.«re.Pattern.split» ⟨[.ref pa, .str x tk], []⟩) (fun fin s' => ∃ v, fin = .done (.ret v) ∧ Q v s') E s := by
  unfold Builtin.«re.Pattern.split»
  obtain ⟨hp', g, d, tk₀, os⟩ := s
  iterate 76 wp_step
  rw [code_back]
  refine split_loop (t := x.cps) (pre := []) ?hb ?ho _ _ _ _ _ ?h0 ?h1 ?h2 ?hR
  case h0 => exact Nat.zero_le _
  case h1 => rw [List.length_range]; show x.cps.size - 0 < 2 * x.cps.size + 3; omega
  case h2 => exact .nil
  case ho => intro i out st n R' s' h'; exact wpAny_pure h'
  case hb =>
    intro i out st n R' s' hst h'
    dsimp only
    rw [if_pos (by rfl), if_neg (by simp)]
    refine wpAny_bind (nextFound_wp (t := x.cps) st hst (by omega) ?_)
    by_cases hq : nextQ x.cps st < x.cps.size
    · rw [if_pos hq] at h' ⊢
      intro mf hit
      dsimp only
      refine wpAny_bind (slice_wp hx ?_)
      refine wpAny_bind ?_
      have e1 : Builtin.Re.reRawNat (#[Value.str (Str.ofString "([0-9]+|[._+-])") t1, Value.int 32 t2, Value.int 1 0, Value.none, Value.none, Value.ref ca, Value.int 0 0].getD 2 Value.none) = 1 := rfl
      rw [e1, show List.range 1 = [0] from rfl, List.forIn_cons]
      refine wpAny_bind (wpAny_bind ?_)
      unfold Builtin.Re.reMachineGroup
      rw [hit.lm, if_neg (by simp), hit.marks]
      show wpAny (model prog w) A (if hitEnd x.cps (nextQ x.cps st) < nextQ x.cps st then Builtin.Re.reWrongSpan else Builtin.Re.reSlice x.cps 0 (nextQ x.cps st) (hitEnd x.cps (nextQ x.cps st))) _ _ _
      have a1 := hitEnd_gt x.cps _ hq
      rw [if_neg (by show ¬ hitEnd x.cps (nextQ x.cps st) < nextQ x.cps st; omega)]
      refine slice_wp hx ?_
      refine wpAny_pure ?_
      dsimp only
      rw [List.forIn_nil]
      refine wpAny_pure (wpAny_pure ?_)
      have e2 : (mf.handed == mf.start) = false := by
        rw [hit.handed, hit.start]
        exact beq_eq_false_iff_ne.mpr (by show hitEnd x.cps (nextQ x.cps st) ≠ nextQ x.cps st; omega)
      rw [e2, hit.handed, hit.start]
      exact h' _ _ _
    · rw [if_neg hq] at h' ⊢
      exact wpAny_pure h'
  case hR => 
    intro out' st' n' tk' pre' h1 h2
    dsimp only
    rw [if_neg (by simp)]
    refine wpAny_bind (slice_wp hx ?_)
    have hv : SV (out'.push (Value.str (ext x.cps st' x.cps.size) tk')).toList (toks x.cps x.cps.size 0) := by
      rw [Array.toList_push]
      rw [List.nil_append, Nat.sub_zero] at h2
      rw [← h2]
      exact h1.append (SV.one _ _)
    refine wpAny_bind (wpAny_newList ?_ ?_)
    · exact wpAny_pure ⟨_, rfl, h _ _ hv⟩
    · have := toks_length x.cps x.cps.size 0
      rw [← hv.length] at this
      rw [sizeLine_eq]
      show (out'.push (Value.str (ext x.cps st' x.cps.size) tk')).toList.length ≤ _
      omega

theorem call_split {prog : Program} {w : World} {A : PySem.Around} {E : Value → Shared → Prop} {s : Shared} {pa ca : Addr} {t1 t2 tk : Tok} {x : Str} {Q : Value → Shared → Prop}
    (hp : s.heap.get? pa = some (patObj t1 t2 ca)) (hc : s.heap.get? ca = some codeTup) (hx : x.cps.size ≤ 1000)
    (h : ∀ vs tk', SV vs (toks x.cps x.cps.size 0) → Q (.ref s.heap.objs.size) { s with heap := s.heap.push { cls := .type "list", data := .seq vs.toArray }, toks := tk' }) :
    wpAny (model prog w) A (call (.builtin "re.Pattern.split") [.ref pa, .str x tk]) Q E s :=
  wpAny_call_entry slot_re_split ⟨_, hp, rfl⟩ entry_re_split (split_wp hp hc hx h) (args_re_split _ _)
theorem getMethod_split {M' : Model} {A : PySem.Around} {E : Value → Shared → Prop} {s : Shared} {pa ca : Addr} {t1 t2 : Tok} {pl : Sem Bool} {Q : Value × List Value → Shared → Prop}
    (hp : s.heap.get? pa = some (patObj t1 t2 ca)) (h : Q (.builtin "re.Pattern.split", [.ref pa]) s) : wpAny M' A (getMethod (.ref pa) "split" pl) Q E s :=
  getMethod_builtin ⟨_, hp, rfl⟩ plainAttrs_re slot_re_split ty_re_split (fun a e => by cases e; exact ⟨_, hp, rfl⟩) h
end Mine
end
section
open PySem PySem.W PyProof.Rows PySem.Calls
set_option Elab.async false
namespace Mine
section
variable {prog : Program} {w : World} {A : PySem.Around} {E : Value → Shared → Prop} {s : Shared} {env : Env} {h₀ : Heap} {x : Str} {body : List Stmt} {Q : Flow → Shared → Prop}

/-- a for over any list that stands in the heap: an invariant over the turn's number, the frame's map and the (chosen part of the) ledger -/
theorem iter_listM {l : Addr} {vs : List Value} {m₀ : Str → Option Value} {news : List (Addr × Obj)} (J : Nat → (Str → Option Value) → List (Addr × Obj) → Prop)
    (hh : A.handled = none) (hl : s.heap.IsList l vs.toArray) (hlL : l ≠ env.locals) (hnl : ∀ p ∈ news, p.1 ≠ l) (F : Fr h₀ env.locals s.heap m₀) (N : News h₀ env.locals s.heap news) (hj : J 0 m₀ news)
    (turn : ∀ i v m₁ news₁ h tk own, vs[i]? = some v → news₁.map (·.1) = news.map (·.1) → OwnOff own (news.map (·.1)) → J i m₁ news₁ → Fr h₀ env.locals h (fun y => if y = x then some v else m₁ y) → News h₀ env.locals h (news₁ ++ own) →
      wpAny (model prog w) A (execs body env) (InvPostN h₀ env.locals (J (i + 1)) own (news.map (·.1)) { s with heap := h, toks := tk } Q) E { s with heap := h, toks := tk })
    (done : ∀ m₁ news₁ h tk, J vs.length m₁ news₁ → news₁.map (·.1) = news.map (·.1) → Fr h₀ env.locals h m₁ → News h₀ env.locals h news₁ → Q .next { s with heap := h, toks := tk }) :
    wpAny (model prog w) A (pyIter (.ref l)) (fun it s₂ => LoopAtV prog w A h₀ env x body Q E it s₂) E s := by
  obtain ⟨ol, hol, _⟩ := id hl
  have hlt : l < s.heap.objs.size := Heap.lt_size hol
  refine wpAny_pyIter_list hl ?_
  have W := Walks.list (prog := prog) (w := w) hh s.heap.objs.size l (Nat.ne_of_lt hlt) vs.toArray
  rw [List.size_toArray] at W
  let J' : Nat → (Str → Option Value) → List (Addr × Obj) → Prop := fun i m₁ news₁ => news₁.map (·.1) = news.map (·.1) ∧ J i m₁ news₁
  refine ⟨_, _, _, vs.length, _, _, m₀, news, J', rfl, W, ?_, ?_, ?_, ⟨⟨_, Heap.get?_push_size _ rfl, rfl, rfl⟩, hl.at fun o e => Heap.get?_push_of_some _ e⟩, F.push _, (fun p hp => ⟨Heap.get?_push_of_some _ (N p hp).1, (N p hp).2⟩), ⟨rfl, hj⟩, ?_, ?_⟩
  · intro hm
    rcases List.mem_cons.mp hm with e | hm
    · exact absurd F.ns.lt (e ▸ Nat.lt_irrefl _)
    · exact hlL (List.mem_singleton.mp hm).symm
  · intro b hb
    rw [List.mem_singleton.mp hb]
    exact next_is_new F
  · intro p hp hI
    exact absurd (Heap.lt_size (N p hp).1) ((List.mem_singleton.mp hI) ▸ Nat.lt_irrefl _)
  · rintro i v m₁ news₁ s₁ own ⟨hh', tk', rfl⟩ hin hP ⟨hadr, hJ⟩ hoff hown _ _ _ F₁ N₁
    have hsep : OwnOff own (news.map (·.1)) := by
      intro p hp b hb e
      obtain ⟨q, hq, rfl⟩ := List.mem_map.mp hb
      rcases List.mem_cons.mp (hown p hp) with h1 | h1
      · exact absurd (Heap.lt_size (N q hq).1) (by rw [← e, h1]; exact Nat.lt_irrefl _)
      · exact hnl q hq (e.symm.trans (List.mem_singleton.mp h1))
    have hP' : vs[i]? = some v := by simpa using hP
    have N₂ : News h₀ env.locals hh' (news₁ ++ own) := fun p hp => N₁ p ((List.mem_append.mp hp).elim (fun h => List.mem_append.mpr (.inr h)) fun h => List.mem_append.mpr (.inl h))
    refine wpAny_mono (turn i v m₁ news₁ hh' tk' own hP' hadr hsep hJ F₁ N₂) (fun f s₂ p => ?_) fun _ _ e => e
    have fin : InvEndN h₀ env.locals (J (i + 1)) own (news.map (·.1)) { s with heap := hh', toks := tk' } s₂ → LoopStepU h₀ env.locals [s.heap.objs.size] own (J' (i + 1)) { s with heap := hh', toks := tk' } .next s₂ := by
      rintro ⟨h', tk, m', news', nx, e, F', N', hn, ho, ha, hm⟩
      refine ⟨rfl, h', tk, m', nx, e, F', fun p hp => N' p ((List.mem_append.mp hp).elim (ho p) (hn p)), fun p hp hq => ?_, ha, hm⟩
      have h1 : p.1 ∈ nx.map (·.1) := List.mem_map.mpr ⟨p, hp, rfl⟩
      rw [ha, ← hadr] at h1
      obtain ⟨q, hq1, hq2⟩ := List.mem_map.mp h1
      exact hoff q hq1 (by rw [hq2]; exact hq)
    cases f with
    | ret v => exact .ret p
    | brk => exact .brk p
    | next => exact .next (fin p)
    | cont => exact .cont (fin p)
  · rintro h' tk m' news' F' N' _ ⟨hadr, hJ⟩
    exact done m' news' h' tk hJ hadr F' N'
end
theorem pin {h₀ h : Heap} {L : Addr} {m : Str → Option Value} (F : Fr h₀ L h m) {a : Str} {v : Value} (hv : m a = some v) : Fr h₀ L h (fun y => if y = a then some v else m y) := by
  have e : (fun y => if y = a then some v else m y) = m := by
    funext y
    by_cases h1 : y = a
    · rw [if_pos h1, h1, hv]
    · rw [if_neg h1]
  rw [e]; exact F
end Mine
end
section
open PySem PySem.W PyProof.Rows PySem.Calls
set_option Elab.async false
namespace Mine
open Sem (wp)

/-- the claim's caller is on the stack -/
def clCodes (l : List Code) : Bool := l.any fun c => match c with | .builtin "claim.caller" _ => true | _ => false
def Cl (Γ : Ctx) : Prop := clCodes (Γ.code :: Γ.below.map (·.1)) = true
def ClB (Γ : Ctx) : Prop := clCodes (Γ.below.map (·.1)) = true
theorem ClB.cl {Γ : Ctx} (h : ClB Γ) : Cl Γ := by unfold Cl ClB clCodes at *; rw [List.any_cons, h, Bool.or_true]

def wpC {α : Type} (M : Model) (A : PySem.Around) (t : Sem α) (Q : α → Shared → Prop) (E : Value → Shared → Prop) (s : Shared) : Prop :=
  ∀ Γ p, Γ.In A → Cl Γ → wp M Γ t (fun a _ s' => Q a s') (fun e _ s' => E e s') p s
def codeC (M : Model) (A : PySem.Around) (c : Code) (R : Result → Shared → Prop) (s : Shared) : Prop :=
  ∀ Γ p, Γ.code = c → Γ.Below A → ClB Γ → wpCode M Γ R p s

section
variable {α β : Type} {M : Model} {A : PySem.Around} {E : Value → Shared → Prop} {s : Shared}
theorem wpC_of_any {t : Sem α} {Q : α → Shared → Prop} (h : wpAny M A t Q E s) : wpC M A t Q E s := fun Γ p hΓ _ => h Γ p hΓ
theorem codeC_of_any {c : Code} {R : Result → Shared → Prop} (h : codeAny M A c R s) : codeC M A c R s := fun Γ p hc hΓ _ => h Γ p hc hΓ
theorem wpC_mono {t : Sem α} {Q Q' : α → Shared → Prop} {E' : Value → Shared → Prop} (h : wpC M A t Q E s)
    (hQ : ∀ a s, Q a s → Q' a s) (hE : ∀ e s, E e s → E' e s) : wpC M A t Q' E' s :=
  fun Γ p hΓ hc => Sem.wp_mono M Γ t (fun a _ s => hQ a s) (fun e _ s => hE e s) p s (h Γ p hΓ hc)
theorem codeC_mono {c : Code} {R R' : Result → Shared → Prop} (h : codeC M A c R s) (hR : ∀ r s, R r s → R' r s) : codeC M A c R' s :=
  fun Γ p hc hΓ hl => wpCode_mono hR (h Γ p hc hΓ hl)
theorem wpC_pure {a : α} {Q : α → Shared → Prop} (h : Q a s) : wpC M A (pure a) Q E s := fun _ _ _ _ => h
theorem wpC_bind {m : Sem α} {f : α → Sem β} {Q : β → Shared → Prop} (h : wpC M A m (fun a s' => wpC M A (f a) Q E s') E s) :
    wpC M A (m >>= f) Q E s := fun Γ p hΓ hc => by
  rw [Sem.wp_bind']
  exact Sem.wp_mono M Γ m (fun a p' s' h' => h' Γ p' hΓ hc) (fun _ _ _ h' => h') p s (h Γ p hΓ hc)
/-- a leaf by the library, the rest under the caller -/
theorem wpC_step {m : Sem α} {f : α → Sem β} {Q : β → Shared → Prop} (h : wpAny M A m (fun a s' => wpC M A (f a) Q E s') E s) :
    wpC M A (m >>= f) Q E s := wpC_bind (wpC_of_any h)
theorem wpC_onRaise {m : Sem α} {k : Value → Sem Unit} {Q : α → Shared → Prop}
    (h : wpC M A m Q (fun e s' => wpC M A (k e) (fun _ s'' => E e s'') E s') s) : wpC M A (m.onRaise k) Q E s := fun Γ p hΓ hc => by
  rw [Sem.wp_onRaise]
  exact Sem.wp_mono M Γ m (fun _ _ _ h' => h') (fun e p' s' h' => h' Γ p' hΓ hc) p s (h Γ p hΓ hc)
theorem wpC_attempt {m : Sem α} {Q : Except Value α → Shared → Prop} (h : wpC M A m (fun a => Q (.ok a)) (fun e => Q (.error e)) s) :
    wpC M A m.attempt Q E s := fun Γ p hΓ hc => by rw [Sem.wp_attempt]; exact h Γ p hΓ hc
theorem wpC_holding {vs : List Value} {m : Sem α} {Q : α → Shared → Prop} (h : wpC M A m Q E s) : wpC M A (holding vs m) Q E s :=
  fun Γ p hΓ hc => by rw [Sem.wp_holding]; exact h Γ p hΓ hc
theorem wpC_keep {vs : List Value} {m : Sem α} {Q : α → Shared → Prop} (h : wpC M A m Q E s) : wpC M A (m.keep vs) Q E s :=
  fun Γ p hΓ hc => by rw [Sem.wp_keep]; exact h Γ p hΓ hc
theorem wpC_standAt {pos : Pos} {f : Unit → Sem β} {Q : β → Shared → Prop} (h : wpC M A (f ()) Q E s) : wpC M A (standAt pos >>= f) Q E s :=
  wpC_step (wpAny_standAt h)
theorem wpC_run {c : Code} {h : Option Value} {Q : Flow → Shared → Prop}
    (hc : codeC M (A.mark h) c (fun r s' => match r with | .ok f => Q f s' | .error e => E e s') s) (hnb : h ≠ some byPass := by intro x; cases x) :
    wpC M A (run c h) Q E s :=
  fun Γ p hΓ hl => by rw [Sem.wp_run]; exact hc _ p rfl (hΓ.enter c h p hnb) hl
theorem wpC_runValue {c : Code} {Q : Value → Shared → Prop}
    (hc : codeC M A c (fun r s' => match r with | .ok (.ret v) => Q v s' | .ok _ => False | .error e => E e s') s) :
    wpC M A (runValue c) Q E s := fun Γ p hΓ hl => by rw [Sem.wp_runValue]; exact hc _ p rfl (hΓ.enter c none p (by intro x; cases x)) hl
theorem wpC_call {f : Value} {pos : List Value} {kw : List (Str × Value)} {Q : Value → Shared → Prop}
    (hc : codeC M A (.call f ⟨pos, kw⟩) (fun r s' => match r with | .ok (.ret v) => Q v s' | .ok _ => False | .error e => E e s') s) :
    wpC M A (call f pos kw) Q E s := wpC_runValue hc
theorem codeC_of_tree {c : Code} {R : Result → Shared → Prop}
    (h : wpC M (A.under c) (M.den c) (fun fin s' => match fin with | .done f => R (.ok f) s' | .again c' => c'.quiet = true ∧ codeC M A c' R s')
      (fun e s' => R (.error e) s') s) : codeC M A c R s := fun Γ p hc hΓ hl => by
  rw [wpCode_iff_wp, hc]
  refine Sem.wp_mono M Γ _ (fun fin p' s' h' => ?_) (fun _ _ _ h' => h') p s (h Γ p (hc ▸ hΓ.in) hl.cl)
  cases fin with
  | done f => exact h'
  | again c' => exact ⟨h'.1, h'.2 (Γ.goto c') p' rfl (hΓ.goto c') hl⟩
theorem codeC_loop {c : Code} {R : Result → Shared → Prop} (hq : c.quiet = true) (I : Nat → Shared → Prop)
    (turn : ∀ n s, I n s → wpC M (A.under c) (M.den c)
      (fun fin s' => match fin with
        | .done f => R (.ok f) s'
        | .again c' => (c' = c ∧ ∃ m, m < n ∧ I m s') ∨ (c'.quiet = true ∧ codeC M A c' R s')) (fun e s' => R (.error e) s') s)
    (n : Nat) (h : I n s) : codeC M A c R s := by
  induction n using Nat.strongRecOn generalizing s with
  | ind n ih =>
    refine codeC_of_tree (wpC_mono (turn n s h) (fun fin s' hf => ?_) fun _ _ h' => h')
    cases fin with
    | done f => exact hf
    | again c' =>
      rcases hf with ⟨rfl, m, hm, hI⟩ | hf
      · exact ⟨hq, ih m hm hI⟩
      · exact hf
end

/-- nothing is raised -/
abbrev NoE : Value → Shared → Prop := fun _ _ => False

section
variable {M : Model} {A : PySem.Around} {E : Value → Shared → Prop} {s : Shared} {env : Env}
theorem wpC_execs_cons {st rest} {Q : Flow → Shared → Prop}
    (h : wpC M A (exec st env) (fun f s' => match f with | .next => wpC M A (execs rest env) Q E s' | f => Q f s') E s) :
    wpC M A (execs (st :: rest) env) Q E s := fun Γ p hΓ hc => by
  rw [execs_cons, Sem.wp_bind']
  refine Sem.wp_mono M Γ _ (fun f p' s' h' => ?_) (fun _ _ _ h' => h') _ _ (h Γ p hΓ hc)
  cases f <;> first | exact h' Γ p' hΓ hc | exact h'
theorem wpC_execs_nil {Q : Flow → Shared → Prop} (h : Q .next s) : wpC M A (execs [] env) Q E s := fun _ _ _ _ => h
/-- a statement by the library, the rest under the caller -/
theorem wpC_execs_any {st rest} {Q : Flow → Shared → Prop}
    (h : wpAny M A (exec st env) (fun f s' => match f with | .next => wpC M A (execs rest env) Q E s' | f => Q f s') E s) :
    wpC M A (execs (st :: rest) env) Q E s := wpC_execs_cons (wpC_of_any h)
theorem wpC_If {test body orelse pos} {Q : Flow → Shared → Prop}
    (h : wpC M A (isTrue test env (eval test env))
      (fun b s₂ => if b then wpC M A (execs body env) Q E s₂ else wpC M A (execs orelse env) Q E s₂) E s) :
    wpC M A (exec (.If test body orelse pos) env) Q E s := fun Γ p hΓ hc => by
  simp only [exec_If, Sem.wp_bind', Sem.wp_cmd_standAt]
  refine Sem.wp_mono M Γ _ (fun b p₂ s₂ h₂ => ?_) (fun _ _ _ h' => h') _ _ (h Γ _ hΓ hc)
  cases b <;> exact h₂ Γ p₂ hΓ hc
theorem wpC_Assign_Name {x pos' value pos} {Q : Flow → Shared → Prop}
    (h : wpC M A (eval value env) (fun v s₁ => wpAny M A (storeName env x v) (fun _ => Q .next) E s₁) E s)
    (hs : swapsWith value (some (.Name x pos')) pos.line env = pure false := by rfl) :
    wpC M A (exec (.Assign [.Name x pos'] value pos) env) Q E s := fun Γ p hΓ hc => by
  simp only [exec_Assign_Name env x pos' value pos hs, Sem.wp_bind', Sem.wp_cmd_standAt, Sem.wp_bindName, Sem.wp_pure']
  exact Sem.wp_mono M Γ _ (fun v _ s₁ h₁ => h₁ Γ _ hΓ) (fun _ _ _ h' => h') _ _ (h Γ _ hΓ hc)
theorem wpC_isTrue_Compare1 {l op r pos whole} {Q : Bool → Shared → Prop}
    (h : wpC M A (eval l env) (fun a s₁ => wpC M A (eval r env) (fun b s₂ => wpAny M A (compareOp op a b)
      (fun c s₃ => wpAny M A (truthy c) Q E s₃) E s₂) E s₁) E s)
    (hm : behindInMarks op r = false := by with_unfolding_all rfl) : wpC M A (isTrue (.Compare l [op] [r] pos) env whole) Q E s := fun Γ p hΓ hc => by
  simp only [isTrue_Compare1, markedBehindIn_of_false hm, Sem.wp_bind', Sem.wp_holding, Sem.wp_cmd_standAt, Sem.wp_operate]
  exact Sem.wp_mono M Γ _ (fun a p₁ s₁ h₁ => Sem.wp_mono M Γ _ (fun b _ s₂ h₂ => Sem.wp_mono M Γ _ (fun c p₃ s₃ h₃ => h₃ Γ p₃ hΓ)
    (fun _ _ _ h' => h') _ _ (h₂ Γ _ hΓ)) (fun _ _ _ h' => h') _ _ (h₁ Γ p₁ hΓ hc)) (fun _ _ _ h' => h') _ _ (h Γ p hΓ hc)
theorem wpC_Return_some {e pos} {Q : Flow → Shared → Prop} (h : wpC M A (eval e env) (fun v => Q (.ret v)) E s) :
    wpC M A (exec (.Return (some e) pos) env) Q E s := fun Γ p hΓ hc => by
  simp only [exec_Return_some, Sem.wp_bind', Sem.wp_cmd_standAt, Sem.wp_pure']; exact h Γ _ hΓ hc
theorem wpC_runOwn {c : Code} {Q : Flow → Shared → Prop}
    (hc : codeC M A c (fun r s' => match r with | .ok f => Q f s' | .error _ => False) s) :
    wpC M A (runOwn c env) Q E s := by
  unfold runOwn
  refine wpC_onRaise (wpC_run (h := none) (codeC_mono (R := fun r s' => match r with | .ok f => Q f s' | .error _ => False) hc fun r s' h' => ?_))
  cases r with
  | ok f => exact h'
  | error e => exact h'.elim
theorem wpC_While {test body orelse pos} {Q : Flow → Shared → Prop}
    (h : codeC M A (.whileLoop test body orelse env) (fun r s' => match r with | .ok f => Q f s' | .error _ => False) s) :
    wpC M A (exec (.While test body orelse pos) env) Q E s := by
  rw [exec_While]; exact wpC_standAt (wpC_runOwn h)
theorem wpC_For {target iter body orelse pos} {Q : Flow → Shared → Prop}
    (h : wpAny M A (eval iter env) (fun x s₁ => wpAny M A (pyIter x) (fun it s₂ =>
      codeC M A (.forLoop target it body orelse env) (fun r s' => match r with | .ok f => Q f s' | .error _ => False) s₂) E s₁) E s)
    (hs : ∀ x, foldedSetIterable iter env x = pure x := by intro _; rfl) :
    wpC M A (exec (.For target iter body orelse pos) env) Q E s := by
  rw [exec_For]
  exact wpC_standAt (wpC_step (wpAny_mono h (fun x s₁ h₁ => wpC_step (wpAny_of_eq (hs x) (wpC_standAt (wpC_step (wpAny_holding
    (wpAny_mono h₁ (fun it s₂ h₂ => wpC_runOwn h₂) fun _ _ h' => h')))))) fun _ _ h' => h'))
theorem wpC_Try_except {body orelse : List Stmt} {h₀ : ExceptHandler} {hs : List ExceptHandler} {pos : Pos} {Q : Flow → Shared → Prop}
    (h : wpC M A (execs body env) (fun f s₁ => match f with | .next => wpAny M A (execs orelse env) Q E s₁ | f => Q f s₁)
      (fun e s₁ => wpAny M A (noteFrame e env) (fun _ s₂ => wpAny M A (setFlight e none) (fun _ s₃ => wpAny M A (handleBy e env (h₀ :: hs)) Q E s₃) E s₂) E s₁) s) :
    wpC M A (exec (.Try body (h₀ :: hs) orelse [] pos) env) Q E s := by
  rw [arm_exec_Try]
  refine wpC_standAt ?_
  unfold tryStmt
  simp only [List.isEmpty_nil, if_true, List.isEmpty_cons, Bool.false_and, Bool.false_eq_true, if_false]
  refine wpC_bind (wpC_attempt (wpC_mono h (fun f s₁ h₁ => ?_) fun e s₁ h₁ => ?_))
  · cases f <;> first | exact wpC_of_any h₁ | exact wpC_pure h₁
  · exact wpC_step (wpAny_mono h₁ (fun _ _ h₂ => wpC_step (wpAny_mono h₂ (fun _ _ h₃ => wpC_of_any h₃) fun _ _ x => x)) fun _ _ x => x)
end

section
variable {prog : Program} {w : World} {A : PySem.Around} {E : Value → Shared → Prop} {R : Result → Shared → Prop} {s : Shared}
theorem wpC_noted {α : Type} {M : Model} {env : Env} {m : Sem α} {Q : α → Shared → Prop} (h : wpC M A m Q NoE s) : wpC M A (m.onRaise fun x => do noteFrame x env; theTreesLotGoes x) Q E s :=
  wpC_onRaise (wpC_mono h (fun _ _ q => q) fun _ _ hx => hx.elim)
theorem codeC_whileLoop {test body env} (I : Nat → Shared → Prop)
    (turn : ∀ n s, I n s →
      wpC (model prog w) A (isTrue test env (eval test env)) (fun b s₂ =>
        if b then wpC (model prog w) A (execs body env) (fun f s₃ => match f with
            | .next | .cont => ∃ m, m < n ∧ I m s₃
            | .brk => R (.ok .next) s₃
            | .ret v => R (.ok (.ret v)) s₃) NoE s₂
        else R (.ok .next) s₂) NoE s)
    (n : Nat) (h : I n s) : codeC (model prog w) A (.whileLoop test body [] env) R s := by
  refine codeC_loop rfl I (fun n s hI => ?_) n h
  show wpC _ A ((whileTurn test body [] env).onRaise (fun x => do noteFrame x env; theTreesLotGoes x)) _ _ s
  refine wpC_noted ?_
  simp only [whileTurn]
  refine wpC_bind (wpC_mono (turn n s hI) (fun b s₂ h₂ => ?_) fun _ _ h' => h')
  cases b with
  | false =>
    simp only [Bool.false_eq_true, if_false] at h₂ ⊢
    exact wpC_step (wpAny_execs_nil (wpC_pure h₂))
  | true =>
    simp only [if_true] at h₂ ⊢
    refine wpC_bind (wpC_mono h₂ (fun f s₃ h₃ => ?_) fun _ _ h' => h')
    cases f with
    | next => exact wpC_pure (.inl ⟨rfl, h₃⟩)
    | cont => exact wpC_pure (.inl ⟨rfl, h₃⟩)
    | brk => exact wpC_pure h₃
    | ret v => exact wpC_pure h₃
theorem codeC_block {stmts : List Stmt} {env : Env} (h : wpC (model prog w) A (execs stmts env) (fun f s' => R (.ok f) s') NoE s) : codeC (model prog w) A (.block stmts env) R s := by
  refine codeC_of_tree ?_
  show wpC _ _ (do return Fin.done (← (execs stmts env).onRaise (fun x => do noteFrame x env; theTreesLotGoes x))) _ _ s
  exact wpC_bind (wpC_noted (wpC_mono h (fun f s' h' => wpC_pure h') fun _ _ h' => h'))
theorem codeC_forLoop {target it body env} (I : Nat → Shared → Prop)
    (turn : ∀ n s, I n s → wpAny (model prog w) A (pyNext it) (fun r s₁ => match r with
      | none => R (.ok .next) s₁
      | some v => wpAny (model prog w) A (assign target env v) (fun _ s₂ => wpC (model prog w) A (execs body env) (fun f s₃ => match f with
          | .next | .cont => ∃ m, m < n ∧ I m s₃
          | .brk => R (.ok .next) s₃
          | .ret v => R (.ok (.ret v)) s₃) NoE s₂) NoE s₁) NoE s)
    (n : Nat) (h : I n s) (ht : ∀ v, letOwnedTupleGo target it v = pure () := by intro _; rfl) : codeC (model prog w) A (.forLoop target it body [] env) R s := by
  refine codeC_loop rfl I (fun n s hI => ?_) n h
  show wpC _ _ ((forTurn target it body [] env).onRaise (fun x => do noteFrame x env; theTreesLotGoes x)) _ _ s
  refine wpC_noted ?_
  simp only [forTurn]
  refine wpC_standAt (wpC_bind (wpC_onRaise (wpC_mono (wpC_of_any (turn n s hI)) (fun r s₁ h₁ => ?_) fun _ _ h' => h'.elim)))
  cases r with
  | none => exact wpC_pure (.inr ⟨rfl, codeC_block (wpC_execs_nil h₁)⟩)
  | some v =>
    refine wpC_step (wpAny_of_eq (ht v) ?_)
    refine wpC_step (wpAny_mono h₁ (fun _ s₂ h₂ => wpC_bind (wpC_mono h₂ (fun f s₃ h₃ => ?_) fun _ _ h' => h')) fun _ _ h' => h')
    cases f with
    | next => exact wpC_pure (.inl ⟨rfl, h₃⟩)
    | cont => exact wpC_pure (.inl ⟨rfl, h₃⟩)
    | brk => exact wpC_pure h₃
    | ret v => exact wpC_pure h₃
theorem codeC_func {body env} (h : wpC (model prog w) (A.deeper env) (execs body env) (fun f s' => R (.ok (.ret (match f with | .ret v => v | _ => .none))) s') NoE s) :
    codeC (model prog w) A (.func body env) R s := by
  refine codeC_of_tree ?_
  show wpC _ (A.deeper env) (do point; match ← (execs body env).onRaise (leaving env) with | .ret v => ret v | _ => ret .none) _ _ s
  refine wpC_step (wpAny_point (wpC_bind (wpC_onRaise (wpC_mono h (fun f s' h' => ?_) fun _ _ h' => h'.elim))))
  cases f <;> exact wpC_pure h'
theorem codeC_call_function {a : Addr} {args : Args} {o : Obj} {fd : FuncData} {body : List Stmt} (hroom : A.depth < recursionLimit)
    (ho : s.heap.get? a = some o)
    (hd' : o.data = .func fd) (hco : fd.scope.isCoroutine = false) (hgen : fd.scope.isGenerator = false) (hbody : fd.body = .stmts body) (hcd : s.heap.CodeRec fd.code fd.qualname)
    (h : wpAny (model prog w) A.in1 (bindArgs fd args) (fun binds s₁ =>
      wpAny (model prog w) A.in1 (newFunctionEnv fd.scope fd.globals fd.closure binds (fd.qualname ++ ".<locals>.") (some a) fd.code none fd.builtins)
        (fun env s₂ => s₂.heap.NoLimit ∧ codeC (model prog w) A (.func body env) R s₂) (fun e s' => R (.error e) s') s₁) (fun e s' => R (.error e) s') s) :
    codeC (model prog w) A (.call (.ref a) args) R s := by
  refine codeC_of_tree ?_
  show wpC _ A.in1 (callAny (.ref a) args) _ _ s
  simp only [callAny]
  refine wpC_step (wpAny_load ho ?_)
  obtain ⟨c, oc, vs, tq, hc, hoc, hdc, hq⟩ := hcd
  simp only [hd', callFunction, hco, hgen, hbody, hc]
  rw [hc] at h
  refine wpC_step (m := field (.ref c) 1) (wpAny_field hoc hdc hq (wpC_step (wpAny_pure ?_)))
  exact wpC_step (wpAny_mono h (fun binds s₁ h₁ => wpC_step (wpAny_mono h₁ (fun env s₂ h₂ => wpC_step (wpAny_enterFrame h₂.1 hroom
    (wpC_pure (And.intro rfl h₂.2)))) fun _ _ h' => h')) fun _ _ h' => h')
theorem codeC_call_def {a : Addr} {o : Obj} {fd : FuncData} {body : List Stmt} {args : Args} {binds : List (Str × Value)}
    (hroom : A.depth < recursionLimit) (ho : s.heap.get? a = some o) (hdata : o.data = .func fd) (hlim : s.heap.NoLimit) (hcd : s.heap.CodeRec fd.code fd.qualname)
    (hbody : fd.body = .stmts body) (hbind : BindsTo s fd args binds)
    (hcell : ∀ x ∈ fd.scope.names, x.2 ≠ .cell) (hloc : ∀ x ∈ binds, fd.scope.names.lookup x.1 = some .local)
    (h : ∀ h₀, h₀.Ns s.heap.objs.size (fun x => binds.reverse.lookup x) → (∀ b o, s.heap.get? b = some o → h₀.get? b = some o) →
      wpC (model prog w) (A.deeper (callEnv fd s.heap.objs.size a)) (execs body (callEnv fd s.heap.objs.size a)) (fun f s' => R (.ok (.ret (match f with | .ret v => v | _ => .none))) s') NoE
        { s with heap := h₀, toks := s.toks + binds.length })
    (hco : fd.scope.isCoroutine = false := by rfl) (hgen : fd.scope.isGenerator = false := by rfl) (hk : fd.scope.kind = .function := by rfl) :
    codeC (model prog w) A (.call (.ref a) args) R s := by
  refine codeC_call_function hroom ho hdata hco hgen hbody hcd (hbind _ _ _ _ ?_)
  refine wpAny_newFunctionEnv hcell hloc (fun h₀ hns₀ hsb₀ => ⟨hlim.fresh _ hsb₀, codeC_func (h h₀ hns₀ fun b o e => ?_)⟩) hk
  exact hsb₀.extBut b o (Nat.ne_of_lt (Heap.lt_size e)) (Heap.get?_push_of_some _ e)
end
end Mine
end
section
open PySem PySem.W PyProof.Rows PySem.Calls
set_option Elab.async false
set_option maxRecDepth 100000
namespace Mine
open Sem (wp)

section
variable {prog : Program} {w : World} {A : PySem.Around} {E : Value → Shared → Prop} {s : Shared} {R : Result → Shared → Prop}
theorem codeC_builtin {id : String} {args : Args} {b : Builtin} (hb : entryFor table id = some b)
    (h : wpC (model prog w) (A.under (.builtin id args)) (b args)
      (fun fin s' => match fin with | .done f => R (.ok f) s' | .again c' => c'.quiet = true ∧ codeC (model prog w) A c' R s') (fun e s' => R (.error e) s') s) :
    codeC (model prog w) A (.builtin id args) R s := by
  refine codeC_of_tree ?_
  show wpC _ _ (match entryFor table id with | some b => b args | none => unsupported ((withoutEnding? id "#data").getD id)) _ _ s
  rw [hb]; exact h
theorem codeC_call_builtin {id : String} {args : Args} {b : Builtin} (hq : plainId id = true) (hb : entryFor table id = some b)
    (h : wpAny (model prog w) A.in1 (checkBuiltinCall id args) (fun _ s₁ => wpC (model prog w) A.in1 (b args)
      (fun fin s' => match fin with | .done f => R (.ok f) s' | .again c' => c'.quiet = true ∧ codeC (model prog w) A c' R s') (fun e s' => R (.error e) s') s₁)
      (fun e s' => R (.error e) s') s) : codeC (model prog w) A (.call (.builtin id) args) R s := by
  refine codeC_of_tree ?_
  show wpC _ A.in1 (do checkBuiltinCall id args; again (.builtin id args)) _ _ s
  refine wpC_step (wpAny_mono h (fun _ s₁ h₁ => wpC_pure (And.intro (plainId_quiet hq args) (codeC_builtin hb ?_))) fun _ _ h' => h')
  rw [Around.under_plainId hq args]; exact h₁

theorem wpC_stack {f : List (Code × Pos) → Sem α} {Q : α → Shared → Prop} (h : ∀ st : List (Code × Pos), clCodes (st.map (·.1)) = true → wpC (model prog w) A (f st) Q E s) :
    wpC (model prog w) A (stack >>= f) Q E s := fun Γ p hΓ hc => by
  show wp (model prog w) Γ (f ((Γ.code, p) :: Γ.below)) _ _ p s
  exact h ((Γ.code, p) :: Γ.below) hc Γ p hΓ hc

theorem mark_none {own : List String} {e : Value} {Q : Unit → Shared → Prop} (h : Q () s) : wpC (model prog w) A (markTheRefusal own e) Q E s := by
  unfold markTheRefusal
  refine wpC_stack fun st hst => ?_
  have e1 : pythonCodeMadeTheCall own (st.map (·.1)) = false := by
    show (!(clCodes (st.map (·.1))) && _ && _) = false
    rw [hst]; rfl
  rw [e1, if_neg (by simp)]
  exact wpC_pure h

theorem typeCall_int_2 (a b : Value) : checkTypeCall "int" ⟨[a, b], []⟩ = pure () := by kernel_rfl
theorem newCall_int_2 (a b : Value) : checkBuiltinCall "int.__new__" ⟨[.type "int", a, b], []⟩ = pure () := by kernel_rfl

theorem int_tree {x : Str} {t u : Tok} {Q : Value → Shared → Prop}
    (h : wpC (model prog w) A.in1.in1 (Builtin.«int.__new__» ⟨[.type "int", .str x t, .int 10 u], []⟩) (fun _ _ => False) E s) :
    wpC (model prog w) A (call (.type "int") [.str x t, .int 10 u]) Q E s := by
  obtain ⟨c, tl, hmro⟩ := F.called_int.mro
  have hmade := F.called_int.made
  have h1 := F.called_int.notType
  have h2 := F.called_int.canCreate
  refine wpC_call (codeC_of_tree ?_)
  show wpC _ _ (callAny (.type "int") _) _ _ _
  refine wpC_pure ⟨Code.quiet_builtin _ (by decide +kernel), codeC_builtin F.entry_type_call ?_⟩
  rw [Around.under_plain (weight_type_call_type "int" _ []) (units_type_call_type "int" _ [])]
  unfold Builtin.«type.__call__»
  dsimp only
  rw [h1, if_neg (by simp)]
  rw [h2, if_neg (by simp)]
  refine wpC_step (wpAny_of_eq (typeCall_int_2 _ _) ?_)
  refine wpC_step (wpAny_of_eq hmro ?_)
  rw [if_neg (by simp)]
  refine wpC_step (wpAny_of_eq hmade ?_)
  dsimp only
  refine wpC_step (wpAny_pure ?_)
  refine wpC_bind (wpC_holding (wpC_call (codeC_call_builtin F.called_int.plain F.entry_int_new (wpAny_of_eq (newCall_int_2 _ _) ?_))))
  exact wpC_mono h (fun _ _ q => q.elim) fun _ _ q => q

theorem int_from_text {x : Str} {t : Tok} {text : List Nat} {Q : Value → Shared → Prop} (hs : (text.takeWhile (· != 0)).length ≤ 640) (hr : (int_private% "readNumeral") 0 10 (text.takeWhile (· != 0)) = int_private% "Numeral.invalid") (hl : (reprText x).length ≤ sizeLine) (hh : A.handled = none)
    (h : ∀ h' tk e, Heap.NewExc s.heap h' e "ValueError" → E (.ref e) { s with heap := h', toks := tk }) :
    wpC (model prog w) A ((int_private% "intFromText") (.str x t) text 10) Q E s := by
  show wpC (model prog w) A (if (text.takeWhile (· != 0)).length ≤ 640 then (bind (pure 0) _) else _) Q E s
  rw [if_pos hs]
  refine wpC_step (wpAny_pure ?_)
  dsimp only
  rw [hr]
  dsimp only
  refine wpC_step (wpAny_of_eq (show (int_private% "bytesOf?") (.str x t) = pure none from rfl) ?_)
  rw [if_neg (by simp)]
  refine wpC_step (wpAny_rule ?_)
  refine wpC_step (wpAny_of_eq (show (int_private% "bytesOf?") (.str x t) = pure none from rfl) ?_)
  dsimp only
  refine wpC_step ?_
  unfold pyRepr
  refine wpAny_bind (pyReprObj_str ?_ hl)
  refine wpAny_pure ?_
  refine wpC_step (wpAny_mkStr ?_ ?_)
  rotate_left
  · show (Str.ofString _ ++ (⟨(reprText x).cps.extract 0 200⟩ : Str)).length ≤ sizeLine
    rw [Str.length_append, sizeLine_eq]
    have e1 : (⟨(reprText x).cps.extract 0 200⟩ : Str).length ≤ 200 := by
      show ((reprText x).cps.extract 0 200).size ≤ 200
      rw [Array.size_extract]; omega
    have e2 : (Str.ofString (toString "invalid literal for int() with base " ++ toString 10 ++ toString ": ")).length ≤ 100 := by decide +kernel
    omega
  refine wpC_step ?_
  unfold newExc newTuple
  refine wpAny_bind (wpAny_newObj_type ?_)
  refine wpAny_bind (m := firstArgMember _ _) (wpAny_of_eq (a := Value.none) (by simp only [firstArgMember, plainExc_ValueError.first]; rfl) ?_)
  rw [plainExc_ValueError.own]
  refine wpAny_newObj_type ?_
  refine wpC_bind (mark_none ?_)
  refine wpC_of_any ?_
  unfold raiseNew
  refine wpAny_bind (wpAny_handled ?_)
  rw [hh]
  first
    | refine wpAny_throw ?_
    | refine wpAny_bind (wpAny_pure (wpAny_throw ?_))
  exact h _ _ _ ⟨fun b o hb => Heap.get?_push_of_some _ (Heap.get?_push_of_some _ hb), Heap.get?_none_of_le (by simp), _, .ref s.heap.objs.size, Heap.get?_push_size _ rfl, rfl, by simp⟩

theorem int_new_tree {x : Str} {t u : Tok} {Q : PySem.Fin → Shared → Prop} (h : ∀ Q', wpC (model prog w) A ((int_private% "intFromText") (.str x t) (numTextOf x) 10) Q' E s) :
    wpC (model prog w) A (Builtin.«int.__new__» ⟨[.type "int", .str x t, .int 10 u], []⟩) Q E s := by
  have f1 := F.conv_sub_int
  have f2 := F.madeHere_int
  unfold Builtin.«int.__new__»
  dsimp only
  refine wpC_step (wpAny_of_eq (show isType (.type "int") = pure true from rfl) ?_)
  rw [if_neg (by simp)]
  refine wpC_step (wpAny_of_eq f1 ?_)
  rw [if_neg (by simp)]
  refine wpC_step (wpAny_of_eq f2 ?_)
  rw [if_neg (by simp), if_neg (by simp), List.forIn_nil]
  refine wpC_step (wpAny_pure ?_)
  dsimp only [List.head?_cons, List.getElem?_cons_succ, List.getElem?_cons_zero]
  show wpC _ _ (bind (Builtin.Int.intIndex "int.__new__" (.int 10 u)) _) _ _ _
  refine wpC_step (wpAny_of_eq (show Builtin.Int.intIndex "int.__new__" (.int 10 u) = pure 10 from rfl) ?_)
  rw [if_neg (by decide)]
  refine wpC_step (wpAny_of_eq (show (int_private% "numeralText?") (.str x t) = pure (some (numTextOf x)) from rfl) ?_)
  dsimp only
  exact wpC_bind (h _)

/-- a word is no number: ValueError, and no note is made under the claim's caller -/
theorem int_word {x : Str} {t u : Tok} {Q : Value → Shared → Prop} (hs : (numSeenOf x).length ≤ 640) (hr : (int_private% "readNumeral") 0 10 (numSeenOf x) = int_private% "Numeral.invalid") (hl : (reprText x).length ≤ sizeLine) (hh : A.handled = none)
    (h : ∀ h' tk e, Heap.NewExc s.heap h' e "ValueError" → E (.ref e) { s with heap := h', toks := tk }) :
    wpC (model prog w) A (call (.type "int") [.str x t, .int 10 u]) Q E s :=
  int_tree (int_new_tree fun _ => int_from_text hs hr hl hh h)
end
end Mine
end
section
open PySem PySem.W PyProof.Rows PySem.Calls PySem.NumText
set_option Elab.async false
set_option maxRecDepth 100000
namespace Mine

theorem args_object_init_3 (a b c : Value) : argsOk "object.__init__" ⟨[a, b, c], []⟩ := by
  unfold argsOk; kernel_rfl

set_option maxHeartbeats 4000000 in
theorem gives_text2 {x : PySem.Str} {t u : Tok} {n : Int} (hl : x.length ≤ 640) (hn : PySem.intText? x = some n) : Gives (Builtin.«int.__new__» ⟨[.type "int", .str x t, .int 10 u], []⟩) (.int n) :=
  .of_wp fun M A E s Q h => by
    have hs : (numSeenOf x).length ≤ 640 := Nat.le_trans (seen_length x) hl
    have hr : (int_private% "readNumeral") 0 10 (numSeenOf x) = (int_private% "Numeral.value") n ∧ ((numSeenOf x).length == (numTextOf x).length) = true := by
      rcases read0 x hs with ⟨m, h1, h2, h3⟩ | ⟨h1, _⟩
      · rw [hn] at h1
        injection h1 with h1
        subst h1
        exact ⟨h3, h2⟩
      · rw [hn] at h1
        cases h1
    have f1 := F.conv_sub_int
    have f2 := F.madeHere_int
    unfold Builtin.«int.__new__»
    dsimp only
    refine wpAny_bind (wpAny_of_eq (show isType (.type "int") = pure true from rfl) ?_)
    rw [if_neg (by simp)]
    refine wpAny_bind (wpAny_of_eq f1 ?_)
    rw [if_neg (by simp)]
    refine wpAny_bind (wpAny_of_eq f2 ?_)
    rw [if_neg (by simp), if_neg (by simp), List.forIn_nil]
    refine wpAny_bind (wpAny_pure ?_)
    dsimp only [List.head?_cons, List.getElem?_cons_succ, List.getElem?_cons_zero]
    show wpAny _ _ (bind (Builtin.Int.intIndex "int.__new__" (.int 10 u)) _) _ _ _
    refine wpAny_bind (wpAny_of_eq (show Builtin.Int.intIndex "int.__new__" (.int 10 u) = pure 10 from rfl) ?_)
    rw [if_neg (by decide)]
    refine wpAny_bind (wpAny_of_eq (show (int_private% "numeralText?") (.str x t) = pure (some (numTextOf x)) from rfl) ?_)
    dsimp only
    refine wpAny_bind (W.KIN.wp_text hs hr.1 hr.2 ?_)
    rw [if_pos (by simp)]
    exact wpAny_pure ⟨_, rfl, h⟩

section
variable {prog : Program} {w : World} {A : PySem.Around} {E : Value → Shared → Prop} {s : Shared} {Q : Value → Shared → Prop} {x : PySem.Str} {t u : Tok} {n : Int}
theorem int_num (hn : PySem.intText? x = some n) (hl : x.length ≤ 640) (h : Q (.int n s.toks) { s with toks := s.toks + 1 }) : wpAny (model prog w) A (call (.type "int") [.str x t, .int 10 u]) Q E s :=
  callType_new F.called_int F.newNe_int (typeCall_int_2 _ _) (newCall_int_2 _ _) (fun obj => args_object_init_3 obj _ _) F.entry_int_new (gives_text2 hl hn).meets (show (Made.int n).post _ s from ⟨rfl, h⟩)
end
end Mine
end
section
open PySem PySem.W PyProof.Rows PySem.Calls
set_option Elab.async false
set_option maxRecDepth 100000
namespace Mine
open Sem (wp)

theorem wp_of_wpC_done {M : Model} {t : Sem PySem.Fin} {R : Result → Shared → Prop} {s : Shared}
    (h : wpC M callerA t (fun fin s' => ∃ f, fin = .done f ∧ R (.ok f) s') (fun e s' => R (.error e) s') s) (p : Pos) :
    wp M ⟨.builtin "claim.caller" {}, none, none, [], none⟩ t (Sem.finPost M ⟨.builtin "claim.caller" {}, none, none, [], none⟩ R) (fun e _ s' => R (.error e) s') p s := by
  refine Sem.wp_mono M _ t (fun fin p' s' h' => ?_) (fun _ _ _ h' => h') p s (h _ p caller_in rfl)
  obtain ⟨f, rfl, hf⟩ := h'
  exact hf

theorem thread_ends_C {prog : Program} {w : World} {t : Sem PySem.Fin} {s : Shared} {R : Result → Shared → Prop} (hreg : s.asleep)
    (h : wpC (model prog w) callerA t (fun fin s' => ∃ f, fin = .done f ∧ (R (.ok f) s' ∧ leftWithCleanup s'.gens = false)) (fun e s' => R (.error e) s' ∧ leftWithCleanup s'.gens = false) s) :
    ∃ n r s' s'', runN (denote table) prog w n s ⟨t, .builtin "claim.caller" {}, default, []⟩ = .halted (outcomeOf r) s' ∧
      schedN (denote table) prog w n (.single s ⟨t, .builtin "claim.caller" {}, default, []⟩) = .halted (outcomeOf r) s' ∧ s'.forget = s''.forget ∧ R r s'' := by
  obtain ⟨n, r, s₁, s₂, hs, hn, hfo, hR⟩ := wp_halts_full (M := model prog w) (R := R) hreg (wp_of_wpC_done (R := fun r s' => R r s' ∧ leftWithCleanup s'.gens = false) h default)
  exact ⟨n, r, s₂, s₁, hn, hs, hfo, hR⟩

theorem callFrom_C {c : ClaimW} {tree : List Value → Sem PySem.Fin} {w : World} {s : Shared} {free : Addr → Prop} {gens : Prop} {kept : Heap → Prop} (hz : s.asleep) (hgens : s.gens = #[])
    (hspec : ∀ args, c.pre args = true → WData.layableAll args = true →
      ∀ ord : List DictEntry → List DictEntry, (∀ l, (ord l).Perm l) →
      ∃ vs s₁, layAllW c.records (classAt s.heap) w.params ord args s = some (vs, s₁) ∧
        wpC (model c.prog w) callerA (tree vs) (fun fin s' => ∃ f, fin = .done f ∧ (c.Ends s args vs s₁ (.ok f) s' ∧ s'.os = s.os ∧ AllBare s'.gens ∧ kept s'.heap))
          (fun e s' => c.Ends s args vs s₁ (.error e) s' ∧ s'.os = s.os ∧ AllBare s'.gens ∧ kept s'.heap) s₁) :
    c.CallFrom (fun vs => ⟨tree vs, .builtin "claim.caller" {}, default, []⟩) w free gens kept s := by
  intro args hpre hlay ord hord
  obtain ⟨vs, s₁, hlaid, hcode⟩ := hspec args hpre hlay ord hord
  have hal := layAllW_rest _ _ _ hlaid
  obtain ⟨k, r, s', s'', hrun, hsched, hfo, hcase, hos, hkp⟩ := thread_ends_C (prog := c.prog) (w := w) (t := tree vs) (s := s₁)
    (R := fun r s' => c.Ends s args vs s₁ r s' ∧ s'.os = s.os ∧ kept s'.heap)
    (Shared.asleep_of_life hal.2.2.2 hz)
    (wpC_mono hcode (by
      rintro fin s' ⟨f, e, h1, h2, h3, h4⟩
      exact ⟨f, e, ⟨h1, h2, h4⟩, leftWithCleanup_false_of_bare h3⟩) (by
      rintro e s' ⟨h1, h2, h3, h4⟩
      exact ⟨⟨h1, h2, h4⟩, leftWithCleanup_false_of_bare h3⟩))
  obtain ⟨eh, _, _, eo, _⟩ := Shared.forget_eq hfo
  have hcase := hcase.congr eh
  have hkp : kept s'.heap := by first | exact eh ▸ hkp | (rw [eh] at hkp; exact hkp) | (rw [← eh] at hkp; exact hkp)
  rw [← eo] at hos
  have hlife : s'.heap.life = s.heap.life := (runN_life _ _ _ hrun).trans hal.2.2.2
  refine ⟨vs, s₁, hlaid, k, _, s', hsched, ?_, (fun _ i x hx => by rw [hgens] at hx; simp at hx), hkp, by rw [hlife], Shared.rest_eq hos⟩
  rcases hcase with ⟨v, rfl, d1, d2, d3, d4, d5⟩ | ⟨e, ob, cls, rfl, d1, d2, d3, d4, d5⟩
  · exact .inl ⟨v, rfl, d1, d2, d3, fun b o y _ => d4 b o y, d5⟩
  · exact .inr ⟨e, ob, cls, rfl, d1, d2, d3, d4, fun b o y _ => d5 b o y⟩

theorem open_C {r : RowW} {run : Value → List Value → Sem Value} {tree : List Value → Sem PySem.Fin} {q : Program} {loose defs kps : List Str} {writes : Bool} {Xt : Shared → Bool} {XP : (Str → Option Value) → Heap → Prop} {α : Type} {Yf : Shared → α} {Ya : World → α} {YP : World → Heap → Prop} {N : Nat}
    (left : LeftO r.prog q loose Xt Yf Ya N) (hY : ∀ w s, Yf s = Ya w → YP w s.heap) (hYk : ∀ w h h', YP w h → (∀ b o, h.get? b = some o → h'.get? b = some o) → YP w h') (hX : ∀ s, Xt s = true → XP (s.heap.nsMap mainGlobals) s.heap) (hXk : ∀ mg h h', XP mg h → (∀ b o, h.get? b = some o → h'.get? b = some o) → XP mg h')
    (hRf : ∀ s, Xt s = true → RecFacts r.records s.heap) (hwr : (!writes || r.records.isEmpty) = true) (ok : (chainsOk q && opensWell r.prog && (frees r && r.within.isEmpty)) = true) (hb : r.prog.bare) (hw : r.promised)
    (ht : ∀ vs (w : World) (s : Shared) mg f (Q : PySem.Fin → Shared → Prop) (E : Value → Shared → Prop), s.heap.Ns mainGlobals mg → mg r.name = some f → wpC (model r.prog w) callerA (run f vs) (fun v s' => Q (.done (.ret v)) s') E s → wpC (model r.prog w) callerA (tree vs) Q E s)
    (pin : ∀ w s, s.heap.isNs mainGlobals = true → Ground q loose [] XP w s (s.heap.nsMap mainGlobals) (s.heap.nsMap builtinsNs) s.heap → ∀ n ∈ defs, isTheDefsW r.prog s.heap n)
    (call : ∀ (w : World) (s₀ s₁ : Shared) (mg mb : Str → Option Value), Ground q loose r.records XP w s₀ mg mb s₁.heap → YP w s₁.heap → ∀ (args : List WData) (vs : List Value) (as : List Addr),
      r.claim.pre args = true → WData.layableAll args = true → Laid r.records w s₀ s₁ args vs as → sysModules < s₀.heap.objs.size → ∃ f, mg r.name = some f ∧
        wpC (model r.prog w) callerA (run f vs) (fun v s' => GoodWG r.claim (classAt s₀.heap) (ExcName.means s₀.heap) args s₁ (.ok (.ret v)) s')
          (fun e s' => GoodWG r.claim (classAt s₀.heap) (ExcName.means s₀.heap) args s₁ (.error e) s') s₁) : r.claim.HoldsOpenBy (fun vs => ⟨tree vs, .builtin "claim.caller" {}, default, []⟩) defs kps writes := by
  obtain ⟨ok, k5⟩ := Bool.and_eq_true_iff.mp ok
  obtain ⟨hch, o1⟩ := Bool.and_eq_true_iff.mp ok
  obtain ⟨k5, k6⟩ := Bool.and_eq_true_iff.mp k5
  obtain ⟨hsame, hu, ha, hap, hm⟩ := frees_parts k5
  refine ⟨⟨hb, o1, by show r.makers.map _ = []; rw [hm]; rfl⟩, hw.witness, fun w => ⟨(left.behind hX hch w).1, fun s' hs' => ?_⟩⟩
  obtain ⟨s₀, hf, hg0, s, hT, hz, hgens, hg, G00, y⟩ := (left.behind (XP := fun mg h => XP mg h ∧ RecFacts r.records h) (fun s hs => ⟨hX s hs, hRf s hs⟩) hch w).2 s' hs'
  have G0 : Ground q loose [] XP w s (s.heap.nsMap mainGlobals) (s.heap.nsMap builtinsNs) s.heap := ⟨G00.T, G00.B, G00.D, G00.TE, G00.TD, G00.W, G00.X.1, G00.cls, G00.has, G00.apart, G00.once, G00.K⟩
  have RF := G00.X.2
  have hT' := hT
  refine ⟨s₀, hf, hg0, s, hT, pin w s hg G0, RF.1, RF.2.1, ?_⟩
  have hgens : s.gens = #[] := Array.eq_empty_of_size_eq_zero (beq_iff_eq.mp hgens)
  have G : Ground q loose r.records XP w s _ _ s.heap := RF.ground G0
  refine callFrom_C (c := r.claim) hz hgens fun args hpre hlay ord hord => ?_
  obtain ⟨⟨vs, s₁⟩, hlaid⟩ := Option.isSome_iff_exists.mp (layAllW_isSome (P := w.params) (ord := ord) G.has args r.args s (pre_splitW hpre).1)
  have keeps := layAllW_keeps _ _ _ hlaid
  have hal := layAllW_rest _ _ _ hlaid
  obtain ⟨as, hrd, hin, hold⟩ := reads_layAllW hord _ _ _ hlaid hlay s₁.heap (fun _ _ e => e)
  have L : Laid r.records w s s₁ args vs as := ⟨⟨ord, hord, hlaid⟩, hrd, hin, hold, keeps, hal.1.trans hgens, hal.2.2.1⟩
  have G₁ := G.keeps hXk keeps
  obtain ⟨f, hf, h⟩ := call w s s₁ _ _ G₁ (hYk _ _ _ (hY w s y) keeps) args vs as hpre hlay L G.low
  have hi := ident_freeW hu ha hap
  have hwi : r.claim.within = [] := List.isEmpty_iff.mp k6
  exact ⟨vs, s₁, hlaid, ht vs w s₁ _ f _ _ G₁.T.g hf (wpC_mono h (fun v s' g => ⟨_, rfl, have z := g.laid (c := r.claim) hsame hwi hi L; ⟨z.1, z.2.1, z.2.2, fun q => ⟨namesKept_of hT' hg kps keeps g.2.1.old, noTable hwr q⟩⟩⟩) fun e s' g => have z := g.laid (c := r.claim) hsame hwi hi L; ⟨z.1, z.2.1, z.2.2, fun q => ⟨namesKept_of hT' hg kps keeps g.2.1.old, noTable hwr q⟩⟩)⟩

abbrev WalkC (q : Program) (loose : List Str) (XP : (Str → Option Value) → Heap → Prop) (YP : World → Heap → Prop) (r : RowW) (d : DefRec) (kwd : List (Str × PySem.Expr)) (run : Value → List Value → Sem Value) : Prop :=
  ∀ (w : World) (s₀ s₁ : Shared) (mg mb : Str → Option Value), Ground q loose r.records XP w s₀ mg mb s₁.heap → YP w s₁.heap → ∀ (a : Addr) (o : Obj) (pm cd doc dV kV : Value), s₁.heap.get? a = some o →
    o.data = .func { docDef d.name d.params d.body d.scope pm cd doc with defaults := dV, kwdefaults := kV } → s₁.heap.CodeRec cd d.name → Dflts mg s₁.heap d.params kwd dV kV → mg d.name = some (.ref a) → s₁.gens = #[] →
    ∀ (args : List WData) (vals : List Value) (as : List Addr), r.claim.pre args = true → WData.layableAll args = true → ReadsAllW r.records (classAt s₀.heap) s₁.heap vals args as → WellAll w.params s₁.heap vals args → (∀ a ∈ as, (a == sysModules) = false) →
      wpC (model r.prog w) callerA (run (.ref a) vals) (fun v s' => GoodWG r.claim (classAt s₀.heap) (ExcName.means s₀.heap) args s₁ (.ok (.ret v)) s')
        (fun e s' => GoodWG r.claim (classAt s₀.heap) (ExcName.means s₀.heap) args s₁ (.error e) s') s₁

theorem PySem.W.holds_open {r : OpenRow} {q : Program} {loose : List Str} {Xt : Shared → Bool} {XP : (Str → Option Value) → Heap → Prop} {α : Type} {Yf : Shared → α} {Ya : World → α} {YP : World → Heap → Prop} {d : DefRec} {kwd : List (Str × PySem.Expr)} {N : Nat}
    (left : LeftO r.prog q loose Xt Yf Ya N) (hY : ∀ w s, Yf s = Ya w → YP w s.heap) (hYk : ∀ w h h', YP w h → (∀ b o, h.get? b = some o → h'.get? b = some o) → YP w h')
    (hX : ∀ s, Xt s = true → XP (s.heap.nsMap mainGlobals) s.heap) (hXk : ∀ mg h h', XP mg h → (∀ b o, h.get? b = some o → h'.get? b = some o) → XP mg h')
    (hdef : defOf q r.name = some (d, kwd)) (hp : r.prog.theDef r.name = some (d.params, d.body, d.scope)) (hk : kwWritten? d.params.kwonlyargs d.params.kw_defaults = some kwd) (hRf : ∀ s, Xt s = true → RecFacts r.records s.heap) (hwr : (!r.writes || r.records.isEmpty) = true)
    (k1 : r.wellSaid = true) (ok : (chainsOk q && opensWell r.prog && (frees r.toRowW && r.within.isEmpty)) = true) (hb : r.prog.bare) (hw : r.toRowW.promised)
    (call : WalkC q loose XP YP r.toRowW d kwd fun f vs => _root_.PySem.call f vs) : r.Holds := by
  refine ⟨k1, hw, open_C (r := r.toRowW) (run := fun f vs => _root_.PySem.call f vs) (tree := fun vs => do match ← nsGet mainNs r.name with
      | some f => do ret (← _root_.PySem.call f vs)
      | none => unsupported "claim.caller:no-such-global") left hY hYk hX hXk hRf hwr ok hb hw
    (fun vs w s mg f Q E hg hf h => wpC_step (wpAny_nsGet hg (by rw [hf]; exact wpC_bind (wpC_mono h (fun _ _ x => wpC_pure x) fun _ _ x => x))))
    (fun w s hg G n hn => ?_) fun w s₀ s₁ mg mb G Y args vs as hpre hlay L low => ?_⟩
  · obtain rfl : n = r.name := by split at hn <;> simp_all
    exact pinned_of_view hg G hdef hp hk
  · obtain ⟨a, o, pm, cd, doc, dV, kV, h1, h2, h3, h4, h5⟩ := G.fn hdef
    exact ⟨.ref a, h1, call w s₀ s₁ mg mb G Y a o pm cd doc dV kV h2 h3 h4 h5 (defOf_name hdef ▸ h1) L.gens args vs as hpre hlay L.reads L.well (L.low low)⟩
end Mine
end
section
open PySem PySem.W PyProof.Rows
set_option Elab.async false
namespace Mine
set_option maxRecDepth 100000 in
set_option maxHeartbeats 8000000 in
open_top hd for PySem.Challenge.rw_ph0088_01
end Mine
end
section
open PySem PySem.W PyProof.Rows PySem.Calls
set_option Elab.async false
set_option maxRecDepth 100000
namespace Mine

abbrev frA (frs : List (Addr × Obj)) : List Addr := frs.map (·.1)

/-- where a call starts: the ground h₀ stands, the frames on the stack are these -/
structure Bs (h₀ : Heap) (outer : List Env) (frs : List (Addr × Obj)) (h : Heap) : Prop where
  stay : ∀ b o, h₀.get? b = some o → h.get? b = some o
  isf : TI.Frs outer frs
  there : ∀ p ∈ frs, h.get? p.1 = some p.2
  new : ∀ p ∈ frs, h₀.get? p.1 = none

/-- what a call leaves: all but the frames as it was, the frames up to their slots -/
structure Kx (frs frs' : List (Addr × Obj)) (h h' : Heap) : Prop where
  up : TI.SameUp frs frs'
  there : ∀ p ∈ frs', h'.get? p.1 = some p.2
  keep : ∀ b o, b ∉ frA frs → h.get? b = some o → h'.get? b = some o

theorem sameUp_addr : ∀ {a b : List (Addr × Obj)}, TI.SameUp a b → frA b = frA a
  | [], [], _ => rfl
  | [], _ :: _, h => h.elim
  | _ :: _, [], h => h.elim
  | p :: ps, q :: qs, ⟨h1, _, h3⟩ => by
    show q.1 :: frA qs = p.1 :: frA ps
    rw [h1, sameUp_addr h3]

theorem Bs.next {h₀ : Heap} {outer : List Env} {frs frs' : List (Addr × Obj)} {h h' : Heap} (B : Bs h₀ outer frs h) (k : Kx frs frs' h h') : Bs h₀ outer frs' h' := by
  refine ⟨fun b o e => k.keep b o (fun hm => ?_) (B.stay b o e), B.isf.up k.up, k.there, fun p hp => ?_⟩
  · obtain ⟨p, hp, rfl⟩ := List.mem_map.mp hm
    rw [B.new p hp] at e; cases e
  · have : p.1 ∈ frA frs := by rw [← sameUp_addr k.up]; exact List.mem_map.mpr ⟨p, hp, rfl⟩
    obtain ⟨q, hq, e⟩ := List.mem_map.mp this
    rw [← e]; exact B.new q hq
theorem Kx.refl {h₀ : Heap} {outer : List Env} {frs : List (Addr × Obj)} {h : Heap} (B : Bs h₀ outer frs h) : Kx frs frs h h := ⟨TI.SameUp.refl _, B.there, fun _ _ _ e => e⟩
theorem Kx.trans {frs frs' frs'' : List (Addr × Obj)} {h h' h'' : Heap} (a : Kx frs frs' h h') (b : Kx frs' frs'' h' h'') : Kx frs frs'' h h'' :=
  ⟨a.up.trans b.up, b.there, fun x o hx e => b.keep x o (by rw [sameUp_addr a.up]; exact hx) (a.keep x o hx e)⟩

/-- the base of a called body: all that stands, without the frames -/
abbrev bas (h : Heap) (frs : List (Addr × Obj)) : Heap := TI.gone h (frA frs)
theorem bas_size (h : Heap) : ∀ l : List Addr, (TI.gone h l).objs.size = h.objs.size
  | [] => rfl
  | a :: l => by rw [TI.gone, Heap.size_update]; exact bas_size h l

theorem Kx.of {frs frs' : List (Addr × Obj)} {h h' : Heap} {L : Addr} {m : Str → Option Value} (F : Fr (bas h frs) L h' m) (up : TI.SameUp frs frs') (there : ∀ p ∈ frs', h'.get? p.1 = some p.2) : Kx frs frs' h h' :=
  ⟨up, there, fun b o hb e => F.keep b o ((TI.gone_get hb).trans e)⟩

theorem Bs.base {h₀ : Heap} {outer : List Env} {frs : List (Addr × Obj)} {h : Heap} (B : Bs h₀ outer frs h) : ∀ b o, h₀.get? b = some o → (bas h frs).get? b = some o := fun b o e =>
  (TI.gone_get fun hm => by obtain ⟨p, hp, rfl⟩ := List.mem_map.mp hm; rw [B.new p hp] at e; cases e).trans (B.stay b o e)

section
variable {K : Frag} {prog : Program} {w : World} {A : PySem.Around} {s : Shared} {R : Result → Shared → Prop} {h₀ : Heap} {outer : List Env} {frs : List (Addr × Obj)}
abbrev retOf (fl : Flow) : Value := match fl with | .ret v => v | _ => .none
theorem call_C {name qual : Str} {params : Arguments} {body : List Stmt} {scope : Scope} {dV kV doc pm cdv ct oc : Value} {an od : Option Addr} {osl : Array (Option Value)} {f : Addr} {args : Args} {binds : List (Str × Value)}
    (B : Bs h₀ outer frs s.heap) (X : K.In h₀) (hlim : h₀.NoLimit)
    (ho : K.lookup f = some ⟨oc, od, .func (fnOf name qual params body scope dV kV doc pm an cdv ct), osl⟩) (hcd : codeIn K cdv qual = true) (hroom : A.depth < recursionLimit)
    (hbind : BindsTo s (fnOf name qual params body scope dV kV doc pm an cdv ct) args binds) (hloc : (binds.all fun y => decide (scope.names.lookup y.1 = some .local)) = true)
    (h : ∀ L h₁, Fr (bas s.heap frs) L h₁ (fun y => binds.reverse.lookup y) → News (bas s.heap frs) L h₁ frs →
      wpC (model prog w) (A.deeper (envOf qual scope L f cdv)) (execs body (envOf qual scope L f cdv))
        (fun fl s' => R (.ok (.ret (retOf fl))) s') NoE { s with heap := h₁, toks := s.toks + binds.length })
    (hco : scope.isCoroutine = false := by rfl) (hgen : scope.isGenerator = false := by rfl) (hk : scope.kind = .function := by rfl)
    (hcell : ∀ x ∈ scope.names, x.2 ≠ .cell := by decide) : codeC (model prog w) A (.call (.ref f) args) R s := by
  have Xs := X.keeps B.stay
  refine codeC_call_def (fd := fnOf name qual params body scope dV kV doc pm an cdv ct) (body := body) (binds := binds) hroom (Xs _ _ ho) rfl (hlim.keeps B.stay) (codeRec_of Xs hcd) rfl hbind hcell (locs hloc) (fun h₁ hns hk₁ => ?_) hco hgen hk
  refine h _ h₁ ⟨hns, fun b o e => hk₁ b o (TI.gone_some e).2, Nat.le_of_eq (bas_size _ _)⟩ fun p hp => ?_
  have hp' := B.there p hp
  exact ⟨hk₁ _ _ hp', Nat.ne_of_lt (Heap.lt_size hp'), TI.gone_none (List.mem_map.mpr ⟨p, hp, rfl⟩)⟩
end

section
variable {h₀ hb h : Heap} {outer : List Env} {frs news : List (Addr × Obj)} {L a : Addr} {m : Str → Option Value} {name : Str} {scope : Scope} {cd : Value}
/-- at a call from a body: its own frame is one more on the stack -/
theorem bs_of (hb0 : ∀ b o, h₀.get? b = some o → hb.get? b = some o) (F : Fr hb L h m) (N : News hb L h (news ++ frs)) (Fs : TI.Frs outer frs) (hk : scope.kind = .function := by rfl) :
    ∃ oL, Bs h₀ (envOf name scope L a cd :: outer) ((L, oL) :: frs) h ∧ (∀ (h' : Heap) sl, h'.get? L = some { oL with slots := sl } → h'.Ns L m) := by
  obtain ⟨oL, es, ep, hL, hLd, hLk, hLf⟩ := F.ns
  have none0 : ∀ b, hb.get? b = none → h₀.get? b = none := fun b e => by
    cases q : h₀.get? b with
    | none => rfl
    | some o => rw [hb0 b o q] at e; cases e
  refine ⟨oL, ⟨fun b o e => F.keep b o (hb0 b o e), ⟨by show scope.kind ≠ .module; rw [hk]; decide, rfl, ⟨es, ep, hLd⟩, Fs⟩, fun p hp => ?_, fun p hp => ?_⟩, fun h' sl e => ⟨_, es, ep, e, hLd, hLk, hLf⟩⟩
  · rcases List.mem_cons.mp hp with rfl | hp
    · exact hL
    · exact (N p (List.mem_append_right _ hp)).1
  · rcases List.mem_cons.mp hp with rfl | hp
    · exact none0 _ (Heap.get?_none_of_le F.above)
    · exact none0 _ (N p (List.mem_append_right _ hp)).2.2

/-- behind the call: frame and ledger again -/
theorem back_of {oL : Obj} {frs₂ : List (Addr × Obj)} {h' : Heap} (F : Fr hb L h m) (N : News hb L h (news ++ frs)) (Fs : TI.Frs outer frs) (hap : ∀ p ∈ news, p.1 ∉ frA frs)
    (ns : ∀ (h' : Heap) sl, h'.get? L = some { oL with slots := sl } → h'.Ns L m) (k : Kx ((L, oL) :: frs) frs₂ h h') :
    ∃ frs', TI.SameUp frs frs' ∧ TI.Frs outer frs' ∧ frA frs' = frA frs ∧ Fr hb L h' m ∧ News hb L h' (news ++ frs') ∧ (∀ b o, b ≠ L → b ∉ frA frs → h.get? b = some o → h'.get? b = some o) := by
  obtain ⟨up, there, keep⟩ := k
  cases frs₂ with
  | nil => exact up.elim
  | cons q frs' =>
    obtain ⟨e1, ⟨sl, e2⟩, up⟩ := up
    have hL : h'.get? L = some { oL with slots := sl } := by
      have := there q (.head _)
      rw [show q.1 = L from e1, e2] at this; exact this
    have ea := sameUp_addr up
    have keep' : ∀ b o, b ≠ L → b ∉ frA frs → h.get? b = some o → h'.get? b = some o := fun b o b1 b2 e => keep b o (fun hm => (List.mem_cons.mp hm).elim b1 b2) e
    refine ⟨frs', up, Fs.up up, ea, ⟨ns h' sl hL, fun b o e => keep' b o (Nat.ne_of_lt (Nat.lt_of_lt_of_le (Heap.lt_size e) F.above)) (fun hm => ?_) (F.keep b o e), F.above⟩, fun p hp => ?_, keep'⟩
    · obtain ⟨p, hp, rfl⟩ := List.mem_map.mp hm
      rw [(N p (List.mem_append_right _ hp)).2.2] at e; cases e
    · rcases List.mem_append.mp hp with hp | hp
      · have n := N p (List.mem_append_left _ hp)
        exact ⟨keep' _ _ n.2.1 (hap p hp) n.1, n.2⟩
      · have : p.1 ∈ frA frs := by rw [← ea]; exact List.mem_map.mpr ⟨p, hp, rfl⟩
        obtain ⟨x, hx, e⟩ := List.mem_map.mp this
        have n := N x (List.mem_append_right _ hx)
        exact ⟨there p (.tail _ hp), by rw [← e]; exact n.2.1, by rw [← e]; exact n.2.2⟩
end

section
variable {prog : Program} {w : World} {A : PySem.Around} {E : Value → Shared → Prop} {s : Shared} {env : Env} {h₀ : Heap} {x : Str} {px : Pos} {body : List Stmt} {R : Result → Shared → Prop}

/-- the turn's end -/
def TEnd (h₀ : Heap) (L : Addr) (J : (Str → Option Value) → List (Addr × Obj) → Prop) (I l : Addr) (s₁ s₂ : Shared) : Prop :=
  ∃ h' tk m' news', s₂ = { s₁ with heap := h', toks := tk } ∧ Fr h₀ L h' m' ∧ News h₀ L h' news' ∧ (∀ b, (b = I ∨ b = l) → ∀ o, s₁.heap.get? b = some o → h'.get? b = some o) ∧ J m' news'
def TPost (h₀ : Heap) (L : Addr) (J : (Str → Option Value) → List (Addr × Obj) → Prop) (I l : Addr) (s₁ : Shared) (R : Result → Shared → Prop) (f : Flow) (s₂ : Shared) : Prop :=
  match f with
  | .ret v => R (.ok (.ret v)) s₂
  | .brk => R (.ok .next) s₂
  | _ => TEnd h₀ L J I l s₁ s₂

/-- a for over a list that stands in the heap, its turns under the caller -/
theorem iterC_list {l : Addr} {vs : List Value} {m₀ : Str → Option Value} {news : List (Addr × Obj)} (J : Nat → (Str → Option Value) → List (Addr × Obj) → Prop)
    (hh : A.handled = none) (hl : s.heap.IsList l vs.toArray) (hlL : l ≠ env.locals) (F : Fr h₀ env.locals s.heap m₀) (N : News h₀ env.locals s.heap news) (hj : J 0 m₀ news)
    (turn : ∀ i v m₁ news₁ h tk I, vs[i]? = some v → s.heap.get? I = none → J i m₁ news₁ → Fr h₀ env.locals h (fun y => if y = x then some v else m₁ y) → News h₀ env.locals h news₁ → h.IsListIter I l (i + 1) → h.IsList l vs.toArray →
      wpC (model prog w) A (execs body env) (TPost h₀ env.locals (J (i + 1)) I l { s with heap := h, toks := tk } R) NoE { s with heap := h, toks := tk })
    (hna : ∀ i m' news', J i m' news' → ∀ p ∈ news', p.1 ≠ s.heap.objs.size)
    (done : ∀ m₁ news₁ h tk, J vs.length m₁ news₁ → Fr h₀ env.locals h m₁ → News h₀ env.locals h news₁ → R (.ok .next) { s with heap := h, toks := tk })
    (hx : env.kindOf x = some .local := by rfl)
    (hp : (env.scope.kind == .class || (env.scope.kind == .module && env.locals != env.globals)) = false := by rfl) :
    wpAny (model prog w) A (pyIter (.ref l)) (fun it s₂ => codeC (model prog w) A (.forLoop (.Name x px) it body [] env) R s₂) E s := by
  obtain ⟨ol, hol, _⟩ := id hl
  have hlt : l < s.heap.objs.size := Heap.lt_size hol
  have hLI : env.locals ≠ s.heap.objs.size := Nat.ne_of_lt F.ns.lt
  have hI0 : h₀.get? s.heap.objs.size = none := Heap.get?_none_of_le (Nat.le_trans F.above (Nat.le_of_lt F.ns.lt))
  refine wpAny_pyIter_list hl ?_
  have W := Walks.list (prog := prog) (w := w) hh s.heap.objs.size l (Nat.ne_of_lt hlt) vs.toArray
  rw [List.size_toArray] at W
  refine codeC_forLoop (fun k s' => ∃ h' tk m' news' i, s' = { s with heap := h', toks := tk } ∧ (h'.IsListIter s.heap.objs.size l i ∧ h'.IsList l vs.toArray) ∧ Fr h₀ env.locals h' m' ∧ News h₀ env.locals h' news' ∧ J i m' news' ∧ i ≤ vs.length ∧ k = vs.length + 1 - i) ?_ (vs.length + 1)
    ⟨_, _, m₀, news, 0, rfl, ⟨⟨_, Heap.get?_push_size _ rfl, rfl, rfl⟩, hl.at fun o e => Heap.get?_push_of_some _ e⟩, F.push _, (fun p hp => ⟨Heap.get?_push_of_some _ (N p hp).1, (N p hp).2⟩), hj, Nat.zero_le _, rfl⟩
  rintro k s' ⟨h', tk, m', news', i, rfl, hst, F', N', hJ, hi, rfl⟩
  have hnw := hna i m' news' hJ
  have next : ∀ h₁ : Heap, (∀ b o, b ∉ [s.heap.objs.size] → h'.get? b = some o → h₁.get? b = some o) → Fr h₀ env.locals h₁ m' ∧ News h₀ env.locals h₁ news' := fun h₁ hk₁ =>
    ⟨⟨F'.ns.at' fun o e => hk₁ _ o (fun q => hLI (List.mem_singleton.mp q)) e, fun b o e => hk₁ b o (fun q => by rw [List.mem_singleton.mp q, hI0] at e; cases e) (F'.keep b o e), F'.above⟩,
     fun p hp => ⟨hk₁ _ _ (fun q => hnw p hp (List.mem_singleton.mp q)) (N' p hp).1, (N' p hp).2⟩⟩
  by_cases hlt' : i < vs.length
  · refine W.item i _ _ _ hlt' hst fun v h₁ tk₁ hP hst₁ hk₁ => ?_
    obtain ⟨F₁, N₁⟩ := next h₁ hk₁
    refine wpAny_assign_Name (wpAny_storeName_local hx F₁.ns (fun h₂ hn₂ hs₂ => ?_) hp)
    have F₂ := F₁.set hn₂ hs₂
    have N₂ := N₁.set hs₂
    have hst₂ := W.frame _ _ h₂ hst₁ fun b hb o e => (hs₂.2 b fun q => by
      rcases List.mem_cons.mp hb with r | r
      · exact hLI (q ▸ r)
      · exact hlL ((List.mem_singleton.mp r).symm.trans q)).trans e
    have hP' : vs[i]? = some v := by simpa using hP
    refine wpC_mono (turn i v m' news' h₂ _ s.heap.objs.size hP' (Heap.get?_none_of_le (Nat.le_refl _)) hJ F₂ N₂ hst₂.1 hst₂.2) (fun f s₃ h₃ => ?_) fun _ _ e => e
    cases f with
    | ret v => exact h₃
    | brk => exact h₃
    | cont =>
      obtain ⟨h₃', tk₃, m₂, news₂, rfl, F₃, N₃, ha₃, hJ₃⟩ := h₃
      exact ⟨vs.length + 1 - (i + 1), by omega, h₃', tk₃, m₂, news₂, i + 1, rfl, ⟨hst₂.1.at fun o e => ha₃ _ (.inl rfl) o e, hst₂.2.at fun o e => ha₃ _ (.inr rfl) o e⟩, F₃, N₃, hJ₃, hlt', rfl⟩
    | next =>
      obtain ⟨h₃', tk₃, m₂, news₂, rfl, F₃, N₃, ha₃, hJ₃⟩ := h₃
      exact ⟨vs.length + 1 - (i + 1), by omega, h₃', tk₃, m₂, news₂, i + 1, rfl, ⟨hst₂.1.at fun o e => ha₃ _ (.inl rfl) o e, hst₂.2.at fun o e => ha₃ _ (.inr rfl) o e⟩, F₃, N₃, hJ₃, hlt', rfl⟩
  · have hin : i = vs.length := by omega
    subst hin
    refine W.done _ _ _ hst fun h₁ tk₁ hk₁ => ?_
    obtain ⟨F₁, N₁⟩ := next h₁ hk₁
    exact done m' news' h₁ tk₁ hJ F₁ N₁
end
end Mine
end
section
open PySem PySem.W PyProof.Rows PySem.Calls
set_option Elab.async false
set_option maxRecDepth 100000
namespace Mine
section
variable {M : Model} {A : PySem.Around} {E : Value → Shared → Prop} {s : Shared} {env : Env}
theorem wpC_Call_Name {id : Str} {p pos : Pos} {args : List PySem.Expr} {keywords : List Keyword} {Q : Value → Shared → Prop}
    (h : wpAny M A (eval (.Name id p) env) (fun f s₁ => wpC M A (callWith pos f [] (backTo pos (starEach args env)) (backToKw pos (keywordEach keywords env))) Q E s₁) E s) :
    wpC M A (eval (.Call (.Name id p) args keywords pos) env) Q E s := by
  rw [arm_eval_Call_Name']
  exact wpC_step h
theorem wpC_spliced_cons {x : Sem Value} {rest : List (Bool × Sem Value)} {Q : List Value → Shared → Prop}
    (h : wpC M A x (fun v s₁ => wpC M A (spliced rest) (fun vs s₂ => Q (v :: vs) s₂) E s₁) E s) : wpC M A (spliced ((false, x) :: rest)) Q E s := by
  rw [spliced]
  refine wpC_bind (wpC_mono h (fun v s₁ h₁ => ?_) fun _ _ x => x)
  simp only [Bool.false_eq_true, if_false]
  exact wpC_step (wpAny_pure (wpC_bind (wpC_holding (wpC_mono h₁ (fun vs s₂ h₂ => wpC_pure h₂) fun _ _ x => x))))
theorem wpC_args_cons {e : PySem.Expr} {rest : List PySem.Expr} {pos : Pos} {Q : List Value → Shared → Prop}
    (h : wpC M A (eval e env) (fun v s₁ => wpC M A (spliced (backTo pos (starEach rest env))) (fun vs s₂ => Q (v :: vs) s₂) E s₁) E s)
    (he : starEach (e :: rest) env = (false, eval e env) :: starEach rest env := by rfl) : wpC M A (spliced (backTo pos (starEach (e :: rest) env))) Q E s := by
  rw [he]; exact wpC_spliced_cons h
theorem wpC_evalArgs_kw {f : Value} {x : Sem Value} {rest : List (Bool × Sem Value)} {keywords : List (Option Str × Sem Value)} {Q : Args → Shared → Prop}
    (hall : keywords.all (·.1.isSome) = true)
    (h : wpC M A (spliced ((false, x) :: rest)) (fun vs s₁ => wpC M A (evalAll (keywords.map (·.2))) (fun ks s₂ => Q ⟨vs, (keywords.filterMap (·.1)).zip ks⟩ s₂) E s₁) E s) :
    wpC M A (evalArgs f true ((false, x) :: rest) keywords) Q E s := by
  unfold evalArgs
  show wpC M A (spliced ((false, x) :: rest) >>= _) Q E s
  refine wpC_bind (wpC_mono h (fun vs s₁ h₁ => ?_) fun _ _ x => x)
  refine wpC_holding ?_
  simp only [hall, if_true]
  refine wpC_bind (wpC_mono h₁ (fun ks s₂ h₂ => ?_) fun _ _ x => x)
  exact wpC_step (wpAny_pure (wpC_pure h₂))
theorem wpC_callWith_def {pos : Pos} {a : Addr} {o : Obj} {fd : FuncData} {args : List (Bool × Sem Value)} {keywords : List (Option Str × Sem Value)} {Q : Value → Shared → Prop}
    (h : wpC M A (evalArgs (.ref a) true args keywords) (fun x s₁ => (s₁.heap.get? a = some o ∧ o.data = .func fd) ∧ wpC M A (call (.ref a) x.pos x.kw) Q E s₁) E s) :
    wpC M A (callWith pos (.ref a) [] args keywords) Q E s := by
  unfold callWith
  refine wpC_bind (wpC_holding (wpC_mono h (fun x s₁ h₁ => wpC_standAt ?_) fun _ _ x => x))
  have tail : ∀ {t : Sem Value}, wpC M A t Q E s₁ → wpC M A (t >>= fun r => holding [r] point >>= fun _ => pure r) Q E s₁ :=
    fun ht => wpC_bind (wpC_mono ht (fun r s₂ hr => wpC_step (wpAny_holding (wpAny_point (wpC_pure hr)))) fun _ _ x => x)
  cases hs : (args.any (·.1) || keywords.any (·.1.isNone)) <;>
    refine wpC_step (m := keeperOf (.ref a)) ?_ <;> unfold keeperOf <;>
    refine wpAny_bind (wpAny_load h₁.1.1 ?_) <;> rw [h₁.1.2] <;> refine wpAny_pure ?_
  · dsimp only
    by_cases hc : args.length + 2 * keywords.length > 30
    · simp only [hc, if_true]
      exact tail h₁.2
    · simp only [hc, if_false]
      exact tail (by unfold callMarked; exact wpC_keep h₁.2)
  · exact tail (by unfold callMarked; exact wpC_keep h₁.2)
/-- a def called with plain arguments and keywords -/
theorem wpC_call_args {pos : Pos} {f : Addr} {o : Obj} {fd : FuncData} {e : PySem.Expr} {rest : List PySem.Expr} {kws : List Keyword} {Q : Value → Shared → Prop} (hdat : o.data = .func fd)
    (h : wpC M A (spliced (backTo pos (starEach (e :: rest) env))) (fun vs s₁ => wpC M A (evalAll ((backToKw pos (keywordEach kws env)).map (·.2)))
      (fun ks s₂ => s₂.heap.get? f = some o ∧ wpC M A (call (.ref f) vs (((backToKw pos (keywordEach kws env)).filterMap (·.1)).zip ks)) Q E s₂) E s₁) E s)
    (hall : (backToKw pos (keywordEach kws env)).all (·.1.isSome) = true := by rfl)
    (he : starEach (e :: rest) env = (false, eval e env) :: starEach rest env := by rfl) :
    wpC M A (callWith pos (.ref f) [] (backTo pos (starEach (e :: rest) env)) (backToKw pos (keywordEach kws env))) Q E s := by
  rw [he] at h ⊢
  refine wpC_callWith_def (o := o) (fd := fd) (wpC_evalArgs_kw hall (wpC_mono h (fun vs s₁ h₁ => wpC_mono h₁ (fun ks s₂ h₂ => ⟨⟨h₂.1, hdat⟩, h₂.2⟩) fun _ _ x => x) fun _ _ x => x))
theorem wpC_callWith_type {pos : Pos} {T : String} {args : List (Bool × Sem Value)} {Q : Value → Shared → Prop} (hplain : args.any (·.1) = false)
    (h : wpC M A (evalArgs (.type T) true args []) (fun a s₁ => wpC M A (call (.type T) a.pos a.kw) Q E s₁) E s) :
    wpC M A (callWith pos (.type T) [] args []) Q E s := by
  unfold callWith
  refine wpC_bind (wpC_holding (wpC_mono h (fun a s₁ h₁ => wpC_standAt ?_) fun _ _ x => x))
  simp only [hplain, List.any_nil, Bool.or_false]
  refine wpC_step (wpAny_pure ?_)
  exact wpC_bind (wpC_mono h₁ (fun r s₂ hr => wpC_step (wpAny_holding (wpAny_point (wpC_pure hr)))) fun _ _ x => x)
theorem wpC_callWith_type1 {pos : Pos} {T : String} {e : PySem.Expr} {rest : List PySem.Expr} {Q : Value → Shared → Prop}
    (h : wpAny M A (spliced (backTo pos (starEach (e :: rest) env))) (fun vs s₁ => wpC M A (call (.type T) vs) Q E s₁) E s)
    (he : starEach (e :: rest) env = (false, eval e env) :: starEach rest env := by rfl)
    (hplain : (backTo pos (starEach rest env)).any (·.1) = false := by rfl) :
    wpC M A (callWith pos (.type T) [] (backTo pos (starEach (e :: rest) env)) []) Q E s := by
  rw [he] at h ⊢
  exact wpC_callWith_type (by show (false || (backTo pos (starEach rest env)).any (·.1)) = false; rw [hplain]; rfl) (wpC_of_any (evalArgs_plain h))
end

section
variable {prog : Program} {w : World} {A₀ : PySem.Around} {E : Value → Shared → Prop} {s' : Shared} {hb h : Heap} {L a e : Addr} {m : Str → Option Value} {name : Str} {scope : Scope} {cd : Value} {l : List Env} {frs new : List (Addr × Obj)}
  {b₀ : Stmt} {suite : List Stmt} {pos np : Pos} {rest : List ExceptHandler} {Q : Flow → Shared → Prop} {X : String} {x : Str} {p : Program} {loose : List Str} {mg mb : Str → Option Value}
/-- an exception that the frame's own except takes, whatever frames are below -/
theorem caught_C (hfr : A₀.frames = some l) (Fs : TI.Frs l frs) (hx : Heap.NewExc h s'.heap e X) (F : Fr hb L h m) (N : News hb L h (new ++ frs)) (hap : ∀ q ∈ new, q.1 ∉ frA frs)
    (T : TopRead p loose mg mb hb)
    (k : ∀ h' frs', TI.SameUp frs frs' → TI.Frs l frs' → Fr hb L h' m → News hb L h' (new ++ frs') → wpAny (model prog w) ((A₀.deeper (envOf name scope L a cd)).mark (some (.ref e))) (execs (b₀ :: suite) (envOf name scope L a cd)) Q E { s' with heap := h' })
    (t1 : x ∉ startupNames := by decide +kernel) (t2 : x ∉ loose := by decide +kernel) (t3 : x ∉ (recsOf p).map (·.name) := by decide +kernel) (t4 : x ∉ (litsOf p).map (·.1) := by decide +kernel) (t5 : x ∉ (clssOf p loose).map (·.name) := by decide +kernel)
    (h3 : subB X (.type x.toString) = some true := by decide +kernel) (hv : bootBuiltins x = some (.type x.toString) := by decide +kernel) (h1 : subB x.toString (.type "BaseException") = some true := by decide +kernel)
    (h2 : subB ((Manifest.find? x.toString).elim "type" fun y => y.metatype) (.type "tuple") = some false := by decide +kernel) (hn : x ≠ "__name__" := by decide)
    (hk : scope.kind = .function := by rfl) (hxk : (envOf name scope L a cd).kindOf x = some .globalImplicit := by rfl) (hdb : (x == ("__debug__" : Str)) = false := by decide)
    (hE : PassesOwnAt (model prog w) ((A₀.deeper (envOf name scope L a cd)).mark (some (.ref e))) (A₀.deeper (envOf name scope L a cd)) (envOf name scope L a cd) E := by passes_own) :
    wpAny (model prog w) (A₀.deeper (envOf name scope L a cd)) (noteFrame (.ref e) (envOf name scope L a cd))
      (fun _ s₂ => wpAny (model prog w) (A₀.deeper (envOf name scope L a cd)) (setFlight (.ref e) none) (fun _ s₃ =>
        wpAny (model prog w) (A₀.deeper (envOf name scope L a cd)) (handleBy (.ref e) (envOf name scope L a cd) (.ExceptHandler (some (.Name x np)) none (b₀ :: suite) pos :: rest)) Q E s₃) E s₂) E s' := by
  refine TLg.noted_newA hfr Fs hx F N (fun q hq hm => ?_) (fun h₁ frs₁ SU Fs₁ H => ?_) hk
  · rcases List.mem_cons.mp hm with r | r
    · exact (N q (List.mem_append_left _ hq)).2.1 r
    · exact hap q hq r
  · refine TT.HeldNA.land (s' := { s' with heap := h₁ }) H fun h₂ H₂ => ?_
    refine wpAny_handleBy_builtin (X := X) (T := x.toString) (b := true) (isSubtype_of_subB h1) (isSubtype_of_subB h2) (isSubtype_of_subB h3) (wpAny_passesOwnAt hE (ld_builtin_at H₂.held.fr T.g (T.free x t1 t2 t3 t4 t5) T.b ((T.builtins x hn).trans hv) ⟨rfl, TT.HeldNA.isA (s' := { s' with heap := h₂ }) H₂, ?_⟩ hk hxk hdb))
    rw [if_pos rfl]
    exact TT.HeldNA.lands (s' := { s' with heap := h₂ }) H₂ fun h' F' N' => wpAny_passesOwnAt hE (k h' frs₁ SU Fs₁ F' N')
end
end Mine
end
section
open PySem PySem.W PyProof.Rows PySem.Calls
set_option Elab.async false
set_option maxRecDepth 100000
namespace Mine
open AutoSeq1 (wpAny_loadPart')
open MeetsSeq MeetsSeq2 MeetsSeq3

/-- a part of what _comparable_version tells -/
inductive Atom where
  | i (n : Int)
  | s (x : Str)
  deriving DecidableEq
inductive AV : List Value → List Atom → Prop
  | nil : AV [] []
  | int {n : Int} {t : Tok} {vs : List Value} {as : List Atom} : AV vs as → AV (.int n t :: vs) (.i n :: as)
  | str {x : Str} {t : Tok} {vs : List Value} {as : List Atom} : AV vs as → AV (.str x t :: vs) (.s x :: as)
theorem AV.append {vs ws : List Value} {as bs : List Atom} (h : AV vs as) (k : AV ws bs) : AV (vs ++ ws) (as ++ bs) := by
  induction h with
  | nil => exact k
  | int _ ih => exact .int ih
  | str _ ih => exact .str ih
theorem AV.length {vs : List Value} {as : List Atom} (h : AV vs as) : vs.length = as.length := by
  induction h with
  | nil => rfl
  | int _ ih => simp [ih]
  | str _ ih => simp [ih]
/-- one value is one atom -/
inductive A1 : Value → Atom → Prop
  | int (n : Int) (t : Tok) : A1 (.int n t) (.i n)
  | str (x : Str) (t : Tok) : A1 (.str x t) (.s x)
theorem AV.at {vs : List Value} {as : List Atom} (h : AV vs as) : ∀ i : Nat, (∃ v a, vs[i]? = some v ∧ as[i]? = some a ∧ A1 v a) ∨ (vs[i]? = none ∧ as[i]? = none) := by
  induction h with
  | nil => intro i; exact .inr ⟨rfl, rfl⟩
  | @int n t vs as _ ih => intro i; cases i with
    | zero => exact .inl ⟨_, _, rfl, rfl, .int n t⟩
    | succ i => simpa using ih i
  | @str x t vs as _ ih => intro i; cases i with
    | zero => exact .inl ⟨_, _, rfl, rfl, .str x t⟩
    | succ i => simpa using ih i

def Atom.lt : Atom → Atom → Bool
  | .i m, .i n => decide (m < n)
  | .s x, .s y => decide (x.cps.toList < y.cps.toList)
  | _, _ => false
def Atom.alike : Atom → Atom → Bool
  | .i _, .i _ => true
  | .s _, .s _ => true
  | _, _ => false
/-- the order of rows of parts -/
def rowLt : List Atom → List Atom → Bool
  | [], [] => false
  | [], _ :: _ => true
  | _ :: _, [] => false
  | a :: as, b :: bs => if a = b then rowLt as bs else a.lt b
/-- they can be compared -/
def Comp : List Atom → List Atom → Prop
  | a :: as, b :: bs => a.alike b = true ∧ (a = b → Comp as bs)
  | _, _ => True

theorem eq_atoms {A : PySem.Around} {s : Shared} {v u : Value} {a b : Atom} (h : A1 v a) (k : A1 u b) (hk : a.alike b = true) : SeqAt.EqAt A s v u (decide (a = b)) := by
  cases h with
  | int m t => cases k with
    | int n t' =>
      have := SeqAt.EqAt.int_int (A := A) (s := s) m t n t'
      have e : (m == n) = decide (Atom.i m = Atom.i n) := by
        by_cases q : m = n
        · subst q; simp
        · rw [beq_eq_false_iff_ne.mpr q]; symm; exact decide_eq_false (by intro z; injection z with z; exact q z)
      rw [e] at this; exact this
    | str => cases hk
  | str x t => cases k with
    | int => cases hk
    | str y t' =>
      have := SeqAt.EqAt.str_str (A := A) (s := s) x t y t'
      have e : (x == y) = decide (Atom.s x = Atom.s y) := by
        by_cases q : x = y
        · subst q; simp
        · rw [beq_eq_false_iff_ne.mpr q]; symm; exact decide_eq_false (by intro z; injection z with z; exact q z)
      rw [e] at this; exact this
theorem lt_atoms {prog : Program} {w : World} {A : PySem.Around} {E : Value → Shared → Prop} {s : Shared} {v u : Value} {a b : Atom} (h : A1 v a) (k : A1 u b) (hk : a.alike b = true) {Q : Value → Shared → Prop} (hq : Q (.bool (a.lt b)) s) :
    wpAny (model prog w) A (richCompare .Lt v u) Q E s := by
  cases h with
  | int m t => cases k with
    | int n t' => exact wpAny_lt_int hq
    | str => cases hk
  | str x t => cases k with
    | int => cases hk
    | str y t' => exact PyProof.Rows.lt_str hq

theorem lt_loop (l b : Addr) (vs us : List Value) (n n2 : Nat) : ∀ (k i : Nat) (as bs : List Atom) (as₀ bs₀ : List Atom), AV vs as₀ → AV us bs₀ → as = as₀.drop i → bs = bs₀.drop i → as.length = k → i ≤ as₀.length → i ≤ bs₀.length → Comp as bs →
    Meets (Builtin.«list.__eq__.loop» ⟨[.ref l, .ref b, rawInt i, rawInt 0], []⟩)
      (fun A R s => s.heap.get? l = some (W.listOf vs.toArray n) ∧ s.heap.get? b = some (W.listOf us.toArray n2) ∧ R (.ok (.ret (.bool (rowLt as bs)))) s) := by
  intro k
  induction k with
  | zero =>
    intro i as bs as₀ bs₀ hv hu ea eb hk hia hib hc prog w A R s h
    obtain ⟨hp, g, d, tk, os⟩ := s; obtain ⟨hl, hb, h⟩ := h
    have ea0 : as = [] := List.eq_nil_of_length_eq_zero hk
    subst ea0
    have hi1 : vs.toArray[((i : Nat) : Int).toNat]? = none := by
      have : as₀.length ≤ i := List.drop_eq_nil_iff.mp ea.symm
      rw [← hv.length] at this
      simp; exact this
    have hsz : rowLt [] bs = decide (vs.toArray.size < us.toArray.size) := by
      have h0 : as₀.length ≤ i := List.drop_eq_nil_iff.mp ea.symm
      have h1 := hv.length
      have h2 := hu.length
      have h3 : bs.length = bs₀.length - i := by rw [eb, List.length_drop]
      cases bs with
      | nil =>
        simp only [List.length_nil] at h3
        show false = _
        symm
        apply decide_eq_false
        rw [List.size_toArray, List.size_toArray, h1, h2]
        omega
      | cons b' bs' =>
        show true = _
        symm
        apply decide_eq_true
        rw [List.size_toArray, List.size_toArray, h1, h2]
        simp only [List.length_cons] at h3
        omega
    rw [hsz] at h
    wp_walk using wpAny_loadPart' hl, wpAny_loadPart' hb
    rw [hi1]
    cases hy : us.toArray[((i : Nat) : Int).toNat]? with
    | none =>
      wp_walk using wpAny_loadPart' hl, wpAny_loadPart' hb
      exact h
    | some y =>
      wp_walk using wpAny_loadPart' hl, wpAny_loadPart' hb
      exact h
  | succ k ih =>
    intro i as bs as₀ bs₀ hv hu ea eb hk hia hib hc prog w A R s h
    obtain ⟨hp, g, d, tk, os⟩ := s; obtain ⟨hl, hb, h⟩ := h
    obtain ⟨a, as', rfl⟩ : ∃ a as', as = a :: as' := by
      cases as with
      | nil => cases hk
      | cons a as' => exact ⟨a, as', rfl⟩
    have hai : as₀[i]? = some a := by
      rw [← List.head?_drop, ← ea]; rfl
    have hat : as' = as₀.drop (i + 1) := by
      rw [← List.tail_drop, ← ea]; rfl
    obtain ⟨x, a', hx, ha', hxa⟩ : ∃ v a, vs[i]? = some v ∧ as₀[i]? = some a ∧ A1 v a := by
      rcases hv.at i with h | ⟨_, h⟩
      · exact h
      · rw [hai] at h; cases h
    rw [hai] at ha'; cases ha'
    have hi1 : vs.toArray[((i : Nat) : Int).toNat]? = some x := by simpa using hx
    wp_walk using wpAny_loadPart' hl, wpAny_loadPart' hb
    rw [hi1]
    cases bs with
    | nil =>
      have hi2 : us.toArray[((i : Nat) : Int).toNat]? = none := by
        have : bs₀.length ≤ i := List.drop_eq_nil_iff.mp eb.symm
        rw [← hu.length] at this
        simp; exact this
      have hsz : decide (vs.toArray.size < us.toArray.size) = false := by
        apply decide_eq_false
        rw [List.size_toArray, List.size_toArray]
        have h1 := List.getElem?_eq_some_iff.mp hx
        have h2 : us.length ≤ i := by simpa using hi2
        have := h1.1
        omega
      rw [hi2]
      wp_walk using wpAny_loadPart' hl, wpAny_loadPart' hb
      show R (.ok (.ret (.bool (decide (vs.toArray.size < us.toArray.size))))) _
      rw [hsz]; exact h
    | cons b' bs' =>
      have hbi : bs₀[i]? = some b' := by
        rw [← List.head?_drop, ← eb]; rfl
      have hbt : bs' = bs₀.drop (i + 1) := by
        rw [← List.tail_drop, ← eb]; rfl
      obtain ⟨y, b'', hy, hb', hyb⟩ : ∃ v a, us[i]? = some v ∧ bs₀[i]? = some a ∧ A1 v a := by
        rcases hu.at i with h | ⟨_, h⟩
        · exact h
        · rw [hbi] at h; cases h
      rw [hbi] at hb'; cases hb'
      have hi2 : us.toArray[((i : Nat) : Int).toNat]? = some y := by simpa using hy
      rw [hi2]
      have hcc : ((i : Int) + 1) = ((i + 1 : Nat) : Int) := by push_cast; rfl
      refine wpAny_bind (eq_atoms hxa hyb hc.1 prog w _ _ ?_)
      have er : rowLt (a :: as') (b' :: bs') = if a = b' then rowLt as' bs' else a.lt b' := rfl
      rw [er] at h
      by_cases hab : a = b'
      · rw [if_pos hab] at h
        rw [decide_eq_true hab]
        wp_walk
        rw [hcc]
        exact ⟨plainId_quiet plain_eq_loop _, codeAny_builtin entry_eq_loop (by
          rw [Around.under_plainId plain_eq_loop _]
          exact ih (i + 1) as' bs' as₀ bs₀ hv hu hat hbt (by simpa using hk) (List.getElem?_eq_some_iff.mp hai).1 (List.getElem?_eq_some_iff.mp hbi).1 (hc.2 hab) prog w A R _ ⟨hl, hb, h⟩)⟩
      · rw [if_neg hab] at h
        rw [decide_eq_false hab]
        wp_walk using wpAny_loadPart' hl, wpAny_loadPart' hb
        rw [hi1, hi2]
        dsimp only
        refine wpAny_bind (lt_atoms hxa hyb hc.1 ?_)
        exact wpAny_pure h

theorem list_lt (l b : Addr) {vs us : List Value} {n n2 : Nat} {as bs : List Atom} (hv : AV vs as) (hu : AV us bs) (hc : Comp as bs) :
    Meets (Builtin.«list.__lt__» ⟨[.ref l, .ref b], []⟩)
      (fun A R s => s.heap.get? l = some (W.listOf vs.toArray n) ∧ s.heap.get? b = some (W.listOf us.toArray n2) ∧ R (.ok (.ret (.bool (rowLt as bs)))) s) := by
  intro prog w A R s h
  obtain ⟨hp, g, d, tk, os⟩ := s; obtain ⟨hl, hb, h⟩ := h
  have f3 := AutoSeq1.sub_list_list
  wp_walk using wpAny_loadPart' hl, wpAny_loadPart' hb
  exact ⟨plainId_quiet plain_eq_loop _, codeAny_builtin entry_eq_loop (by
    rw [Around.under_plainId plain_eq_loop _]
    exact lt_loop l b vs us n n2 _ 0 as bs as bs hv hu rfl rfl rfl (Nat.zero_le _) (Nat.zero_le _) hc prog w A R _ ⟨hl, hb, h⟩)⟩

theorem lt_lists {prog : Program} {w : World} {A : PySem.Around} {E : Value → Shared → Prop} {s : Shared} {l b : Addr} {vs us : List Value} {n n2 : Nat} {as bs : List Atom} {Q : Value → Shared → Prop} (hv : AV vs as) (hu : AV us bs) (hc : Comp as bs)
    (hl : s.heap.get? l = some (W.listOf vs.toArray n)) (hb : s.heap.get? b = some (W.listOf us.toArray n2)) (hun : A.units < cLine) (h : Q (.bool (rowLt as bs)) s) : wpAny (model prog w) A (compareOp .Lt (.ref l) (.ref b)) Q E s := by
  show wpAny (model prog w) A (richCompare .Lt (.ref l) (.ref b)) Q E s
  have ha : s.TypeIs (.ref l) "list" := ⟨_, hl, rfl⟩
  have hb' : s.TypeIs (.ref b) "list" := ⟨_, hb, rfl⟩
  have g := list_lt l b (n := n) (n2 := n2) hv hu hc
  refine richCompare_meets_room ha hb' PySem.F.slot_list_lt PySem.F.entry_list_lt (PySem.F.args_list_lt_2 _ _) g ?_ hun
  refine ⟨hl, hb, ?_⟩
  exact ⟨(by intro q; cases q), h⟩
end Mine
end
section
open PySem PySem.W PyProof.Rows PySem.Calls
set_option Elab.async false
set_option maxRecDepth 100000
namespace Mine

def Pins (m : Str → Option Value) : List (Str × Value) → Prop
  | [] => True
  | (a, v) :: r => m a = some v ∧ Pins m r
theorem Pins.look {m : Str → Option Value} : ∀ {l : List (Str × Value)}, Pins m l → ∀ {y : Str} {v : Value}, l.lookup y = some v → m y = some v
  | [], _, _, _, e => by cases e
  | (a, u) :: r, h, y, v, e => by
    rw [List.lookup] at e
    by_cases q : y = a
    · subst q
      rw [show (y == y) = true from beq_self_eq_true _] at e
      cases e
      exact h.1
    · rw [show (y == a) = false from beq_eq_false_iff_ne.mpr q] at e
      exact h.2.look e
/-- what is known of the names, into the frame's map -/
theorem pins {h₀ h : Heap} {L : Addr} {m : Str → Option Value} (F : Fr h₀ L h m) (l : List (Str × Value)) (hl : Pins m l) : Fr h₀ L h (fun y => (l.lookup y).or (m y)) := by
  have e : (fun y => (l.lookup y).or (m y)) = m := by
    funext y
    cases q : l.lookup y with
    | none => rfl
    | some v => exact (hl.look q).symm
  rw [e]; exact F

def skipTok (v : Str) : Bool := !(Builtin.Str.occurrences (Str.ofString "._+-") v 0 (Str.ofString "._+-").length 1).isEmpty

theorem SV.at {vs : List Value} {xs : List Str} (h : SV vs xs) {i : Nat} {v : Value} (hv : vs[i]? = some v) : ∃ x, xs[i]? = some x ∧ ∃ t, v = .str x t := by
  induction h generalizing i with
  | nil => simp at hv
  | @cons x t vs xs _ ih =>
    cases i with
    | zero => simp at hv; exact ⟨x, rfl, t, hv.symm⟩
    | succ i => simp only [List.getElem?_cons_succ] at hv ⊢; exact ih hv

def stages : List (Str × Int) := [(⟨#[100, 101, 118]⟩, 10), (⟨#[97, 108, 112, 104, 97]⟩, 20), (⟨#[97]⟩, 20), (⟨#[98, 101, 116, 97]⟩, 30), (⟨#[98]⟩, 30), (⟨#[99]⟩, 40), (⟨#[82, 67]⟩, 50), (⟨#[114, 99]⟩, 50), (⟨#[112, 108]⟩, 200), (⟨#[112]⟩, 200)]
def stageOf (v : Str) : Int := (stages.lookup v).getD 0
theorem look_stage (vx : Str) : ∀ l : List (Str × Int), Spec.lookup (PyData.str vx) (l.map fun p => (PyData.str p.1, PyData.int p.2)) = (l.lookup vx).map PyData.int
  | [] => rfl
  | (a, n) :: l => by
    show (if Spec.same (.str a) (.str vx) = true then some (PyData.int n) else Spec.lookup (PyData.str vx) (l.map fun p => (PyData.str p.1, PyData.int p.2))) = _
    rw [look_stage vx l, List.lookup]
    by_cases h : vx = a
    · subst h
      rw [if_pos (by simp [Spec.same]), show (vx == vx) = true from beq_self_eq_true _]; rfl
    · rw [if_neg (by simp [Spec.same]; exact fun q => h q.symm), show (vx == a) = false from beq_eq_false_iff_ne.mpr h]
theorem stage_flat {vx : Str} {v : Value} (h : PyProof.V.Flat v ((Spec.lookup (PyData.str vx) [(PyData.str ⟨#[100, 101, 118]⟩, PyData.int 10), (PyData.str ⟨#[97, 108, 112, 104, 97]⟩, PyData.int 20), (PyData.str ⟨#[97]⟩, PyData.int 20), (PyData.str ⟨#[98, 101, 116, 97]⟩, PyData.int 30), (PyData.str ⟨#[98]⟩, PyData.int 30), (PyData.str ⟨#[99]⟩, PyData.int 40), (PyData.str ⟨#[82, 67]⟩, PyData.int 50), (PyData.str ⟨#[114, 99]⟩, PyData.int 50), (PyData.str ⟨#[112, 108]⟩, PyData.int 200), (PyData.str ⟨#[112]⟩, PyData.int 200)]).getD (PyData.int 0))) : ∃ t, v = .int (stageOf vx) t := by
  have e : Spec.lookup (PyData.str vx) (stages.map fun p => (PyData.str p.1, PyData.int p.2)) = (stages.lookup vx).map PyData.int := look_stage vx stages
  have h' : PyProof.V.Flat v ((Spec.lookup (PyData.str vx) (stages.map fun p => (PyData.str p.1, PyData.int p.2))).getD (PyData.int 0)) := h
  rw [e] at h'
  have e2 : ((stages.lookup vx).map PyData.int).getD (PyData.int 0) = PyData.int (stageOf vx) := by
    unfold stageOf; cases stages.lookup vx <;> rfl
  rw [e2] at h'
  have r := h' default
  cases r
  exact ⟨_, rfl⟩
def atomsOf (v : Str) : List Atom := if skipTok v then [] else match PySem.intText? v with
  | some n => [.i 100, .i n]
  | none => [.i (stageOf v), .s v]
theorem atoms_le : ∀ l : List Str, (l.flatMap atomsOf).length ≤ 2 * l.length
  | [] => Nat.le_refl _
  | v :: l => by
    rw [List.flatMap_cons, List.length_append, List.length_cons]
    have h1 := atoms_le l
    have h2 : (atomsOf v).length ≤ 2 := by
      unfold atomsOf
      split
      · simp
      · split <;> simp
    omega
/-- what may stand in a version -/
def TokOk (v : Str) : Prop := skipTok v = true ∨ (∃ n, PySem.intText? v = some n ∧ v.length ≤ 640) ∨
  (PySem.intText? v = none ∧ (numSeenOf v).length ≤ 640 ∧ (int_private% "readNumeral") 0 10 (numSeenOf v) = int_private% "Numeral.invalid" ∧ (reprText v).length ≤ sizeLine)

theorem news_pick {h₀ h : Heap} {L : Addr} {a b c d : Addr × Obj} {rest : List (Addr × Obj)} (N : News h₀ L h (a :: b :: c :: d :: rest)) : News h₀ L h (b :: rest) ∧ News h₀ L h [c, d] := by
  refine ⟨fun p hp => N p ?_, fun p hp => N p ?_⟩
  · rcases List.mem_cons.mp hp with rfl | hp
    · exact .tail _ (.head _)
    · exact .tail _ (.tail _ (.tail _ (.tail _ hp)))
  · rcases List.mem_cons.mp hp with rfl | hp
    · exact .tail _ (.tail _ (.head _))
    · rw [List.mem_singleton.mp hp]; exact .tail _ (.tail _ (.tail _ (.head _)))
theorem extend_pair {prog : Program} {w : World} {A : PySem.Around} {E : Value → Shared → Prop} {s : Shared} {h₀ : Heap} {L r b : Addr} {m : Str → Option Value} {v1 v2 : Value} {vals : List Value} {n : Nat} {rest : List (Addr × Obj)} {Q : Value → Shared → Prop}
    (F : Fr h₀ L s.heap m) (N : News h₀ L s.heap ((b, { cls := .type "tuple", data := .seq #[v1, v2] }) :: (r, W.listOf vals.toArray n) :: rest)) (hbr : b ≠ r) (hrest : ∀ p ∈ rest, p.1 ≠ r) (hz : vals.length ≤ 100000)
    (h : ∀ h', Fr h₀ L h' m → News h₀ L h' ((b, { cls := .type "tuple", data := .seq #[v1, v2] }) :: (r, W.listOf (vals ++ [v1, v2]).toArray (n + 1)) :: rest) → Q .none { s with heap := h' }) :
    wpAny (model prog w) A (call (.builtin "list.extend") [.ref r, .ref b]) Q E s := by
  refine kup_extend F N (.head _) (l := vals ++ [v1, v2]) rfl (by simp) (.tail hbr (.head hrest)) ?_ ?_ ?_ h
  · intro hc
    rw [Bool.and_eq_true] at hc
    exact extend_door (a := vals.toArray) (b := #[v1, v2]) (by rw [sizeLine_eq]; simp; omega) (by rw [Bool.and_eq_true]; exact hc)
  · rw [sizeLine_eq]; simp; omega
  · rw [sizeLine_eq]; simp; omega

def keyOf (l : Str) : List Atom := (toks l.cps l.cps.size 0).flatMap atomsOf
structure LabOk (l : Str) : Prop where
  size : l.cps.size ≤ 1000
  ok : ∀ v ∈ toks l.cps l.cps.size 0, TokOk v
end Mine
end
section
open PySem PySem.W PyProof.Rows PySem.Calls
set_option Elab.async false
set_option linter.unusedVariables false
set_option maxRecDepth 100000
namespace Mine
section
variable {M : Model} {A : PySem.Around} {E : Value → Shared → Prop} {s : Shared} {env : Env}
/-- a def of K called with plain arguments and keywords -/
theorem wpC_call_K {K : Frag} {pos : Pos} {f : Addr} {oc : Value} {od : Option Addr} {osl : Array (Option Value)} {fd : FuncData} {e : PySem.Expr} {rest : List PySem.Expr} {kws : List Keyword} {Q : Value → Shared → Prop}
    (ho : K.lookup f = some ⟨oc, od, .func fd, osl⟩)
    (h : wpC M A (spliced (backTo pos (starEach (e :: rest) env))) (fun vs s₁ => wpC M A (evalAll ((backToKw pos (keywordEach kws env)).map (·.2)))
      (fun ks s₂ => K.In s₂.heap ∧ wpC M A (call (.ref f) vs (((backToKw pos (keywordEach kws env)).filterMap (·.1)).zip ks)) Q E s₂) E s₁) E s)
    (hall : (backToKw pos (keywordEach kws env)).all (·.1.isSome) = true := by rfl)
    (he : starEach (e :: rest) env = (false, eval e env) :: starEach rest env := by rfl) :
    wpC M A (callWith pos (.ref f) [] (backTo pos (starEach (e :: rest) env)) (backToKw pos (keywordEach kws env))) Q E s :=
  wpC_call_args (o := ⟨oc, od, .func fd, osl⟩) (fd := fd) rfl (wpC_mono h (fun vs s₁ h₁ => wpC_mono h₁ (fun ks s₂ h₂ => ⟨h₂.1 _ _ ho, h₂.2⟩) fun _ _ x => x) fun _ _ x => x) hall he
theorem wpC_evalAll_nil {Q : List Value → Shared → Prop} (h : Q [] s) : wpC M A (evalAll []) Q E s := by
  rw [evalAll]; exact wpC_pure h
theorem wpC_evalAll_cons {x : Sem Value} {rest : List (Sem Value)} {Q : List Value → Shared → Prop} (h : wpC M A x (fun v s₁ => wpC M A (evalAll rest) (fun vs s₂ => Q (v :: vs) s₂) E s₁) E s) : wpC M A (evalAll (x :: rest)) Q E s := by
  rw [evalAll]
  exact wpC_bind (wpC_mono h (fun v s₁ h₁ => wpC_bind (wpC_holding (wpC_mono h₁ (fun vs s₂ h₂ => wpC_pure h₂) fun _ _ x => x))) fun _ _ x => x)
theorem wpC_call_K0 {K : Frag} {pos : Pos} {f : Addr} {oc : Value} {od : Option Addr} {osl : Array (Option Value)} {fd : FuncData} {e : PySem.Expr} {rest : List PySem.Expr} {Q : Value → Shared → Prop}
    (ho : K.lookup f = some ⟨oc, od, .func fd, osl⟩)
    (h : wpC M A (spliced (backTo pos (starEach (e :: rest) env))) (fun vs s₁ => K.In s₁.heap ∧ wpC M A (call (.ref f) vs []) Q E s₁) E s)
    (he : starEach (e :: rest) env = (false, eval e env) :: starEach rest env := by rfl) :
    wpC M A (callWith pos (.ref f) [] (backTo pos (starEach (e :: rest) env)) (backToKw pos (keywordEach [] env))) Q E s :=
  wpC_call_K ho (wpC_mono h (fun vs s₁ h₁ => wpC_evalAll_nil h₁) fun _ _ x => x) rfl he
theorem wpC_call_K1 {K : Frag} {pos px kp : Pos} {f : Addr} {x y : Str} {oc : Value} {od : Option Addr} {osl : Array (Option Value)} {fd : FuncData} {e : PySem.Expr} {rest : List PySem.Expr} {Q : Value → Shared → Prop}
    (ho : K.lookup f = some ⟨oc, od, .func fd, osl⟩)
    (h : wpC M A (spliced (backTo pos (starEach (e :: rest) env))) (fun vs s₁ => wpAny M A (eval (.Name y px) env) (fun v s₂ => K.In s₂.heap ∧ wpC M A (call (.ref f) vs [(x, v)]) Q E s₂) E s₁) E s)
    (he : starEach (e :: rest) env = (false, eval e env) :: starEach rest env := by rfl)
    (hx : (backToKw pos (keywordEach [⟨some x, .Name y px, kp⟩] env)) = [(some x, do let v ← eval (.Name y px) env; standAt pos; pure v)] := by rfl) :
    wpC M A (callWith pos (.ref f) [] (backTo pos (starEach (e :: rest) env)) (backToKw pos (keywordEach [⟨some x, .Name y px, kp⟩] env))) Q E s := by
  refine wpC_call_K ho (wpC_mono h (fun vs s₁ h₁ => ?_) fun _ _ x => x) (by rw [hx]; rfl) he
  rw [hx]
  exact wpC_evalAll_cons (wpC_step (wpAny_mono h₁ (fun v s₂ h₂ => wpC_standAt (wpC_pure (wpC_evalAll_nil h₂))) fun _ _ x => x))
theorem Fr.off {h₀ h : Heap} {L b : Addr} {o : Obj} {m : Str → Option Value} (F : Fr h₀ L h m) (e : h₀.get? b = some o) : b ≠ L := Nat.ne_of_lt (Nat.lt_of_lt_of_le (Heap.lt_size e) F.above)
end
end Mine
end
section
open PySem PySem.W PyProof.Rows PySem.Calls
set_option Elab.async false
set_option linter.unusedVariables false
set_option maxRecDepth 100000
namespace Mine
section
variable {prog : Program} {w : World} {A : PySem.Around} {E : Value → Shared → Prop} {s : Shared} {h₀ hb : Heap} {outer : List Env} {frs news : List (Addr × Obj)} {L g : Addr} {m : Str → Option Value} {name : Str} {scope : Scope} {cd : Value}
  {f : Value} {pos : List Value} {kw : List (Str × Value)} {Q : Value → Shared → Prop} {a : Addr} {o : Obj}
/-- a contract used at a call from a body -/
theorem at_C (P : Value → Heap → Prop) (hb0 : ∀ b o, h₀.get? b = some o → hb.get? b = some o) (F : Fr hb L s.heap m) (N : News hb L s.heap (news ++ frs)) (Fs : TI.Frs outer frs) (hap : ∀ p ∈ news, p.1 ∉ frA frs) (hA : A.frames = some outer)
    (h : ∀ oL, Bs h₀ (envOf name scope L g cd :: outer) ((L, oL) :: frs) s.heap → (A.deeper (envOf name scope L g cd)).frames = some (envOf name scope L g cd :: outer) →
      codeC (model prog w) (A.deeper (envOf name scope L g cd)) (.call f ⟨pos, kw⟩) (fun r s' => ∃ v h' tk' frs₂, r = .ok (.ret v) ∧ s' = { s with heap := h', toks := tk' } ∧ Kx ((L, oL) :: frs) frs₂ s.heap h' ∧ P v h') s)
    (k : ∀ v h' tk' frs', TI.SameUp frs frs' → TI.Frs outer frs' → frA frs' = frA frs → Fr hb L h' m → News hb L h' (news ++ frs') → P v h' → Q v { s with heap := h', toks := tk' })
    (hk : scope.kind = .function := by rfl) : wpC (model prog w) (A.deeper (envOf name scope L g cd)) (call f pos kw) Q E s := by
  obtain ⟨oL, B', ns⟩ := bs_of (h₀ := h₀) (name := name) (scope := scope) (a := g) (cd := cd) hb0 F N Fs hk
  refine wpC_call (codeC_mono (h oL B' (by simp [Around.deeper, hA])) fun r s' h' => ?_)
  obtain ⟨v, h2, tk2, frs₂, rfl, rfl, K, p⟩ := h'
  obtain ⟨frs5, SU5, Fs5, ea5, F5, N5, keep5⟩ := back_of F N Fs hap ns K
  exact k v h2 tk2 frs5 SU5 Fs5 ea5 F5 N5 p
/-- .. of a call that turns one thing of the ledger -/
structure Ky (a : Addr) (frs frs' : List (Addr × Obj)) (h h' : Heap) : Prop where
  up : TI.SameUp frs frs'
  there : ∀ p ∈ frs', h'.get? p.1 = some p.2
  keep : ∀ b o, b ∉ frA frs → b ≠ a → h.get? b = some o → h'.get? b = some o
theorem Kx.ky {frs frs' : List (Addr × Obj)} {h h' : Heap} (k : Kx frs frs' h h') : Ky a frs frs' h h' := ⟨k.up, k.there, fun b o h1 _ e => k.keep b o h1 e⟩
theorem at_Cy {vs : List Value} {n : Nat} (P : Value → List Value → Prop) (hb0 : ∀ b o, h₀.get? b = some o → hb.get? b = some o) (F : Fr hb L s.heap m) (N : News hb L s.heap ((a, W.listOf vs.toArray n) :: (news ++ frs))) (Fs : TI.Frs outer frs) (hap : ∀ p ∈ (a, W.listOf vs.toArray n) :: news, p.1 ∉ frA frs)
    (hna : ∀ p ∈ news, p.1 ≠ a) (hA : A.frames = some outer)
    (h : ∀ oL, Bs h₀ (envOf name scope L g cd :: outer) ((L, oL) :: frs) s.heap → a ∉ frA ((L, oL) :: frs) → (A.deeper (envOf name scope L g cd)).frames = some (envOf name scope L g cd :: outer) →
      codeC (model prog w) (A.deeper (envOf name scope L g cd)) (.call f ⟨pos, kw⟩) (fun r s' => ∃ v h' tk' frs₂ vs' n', r = .ok (.ret v) ∧ s' = { s with heap := h', toks := tk' } ∧ Ky a ((L, oL) :: frs) frs₂ s.heap h' ∧ h'.get? a = some (W.listOf (List.toArray vs') n') ∧ P v vs') s)
    (k : ∀ v h' tk' frs' vs' n', TI.SameUp frs frs' → TI.Frs outer frs' → frA frs' = frA frs → Fr hb L h' m → News hb L h' ((a, W.listOf (List.toArray vs') n') :: (news ++ frs')) → P v vs' → Q v { s with heap := h', toks := tk' })
    (hk : scope.kind = .function := by rfl) : wpC (model prog w) (A.deeper (envOf name scope L g cd)) (call f pos kw) Q E s := by
  have N' : News hb L s.heap (news ++ frs) := fun p hp => N p (.tail _ hp)
  obtain ⟨oL, B', ns⟩ := bs_of (h₀ := h₀) (name := name) (scope := scope) (a := g) (cd := cd) hb0 F N' Fs hk
  have haL : a ≠ L := (N _ (.head _)).2.1
  have ha0 : hb.get? a = none := (N _ (.head _)).2.2
  have haf : a ∉ frA frs := hap _ (.head _)
  refine wpC_call (codeC_mono (h oL B' (fun hm => (List.mem_cons.mp hm).elim haL haf) (by simp [Around.deeper, hA])) fun r s' h' => ?_)
  obtain ⟨v, h2, tk2, frs₂, vs', n', rfl, rfl, ⟨up, there, keep⟩, hgot, p⟩ := h'
  cases frs₂ with
  | nil => exact up.elim
  | cons q frs' =>
    obtain ⟨e1, ⟨sl, e2⟩, up⟩ := up
    have hL : h2.get? L = some { oL with slots := sl } := by
      have := there q (.head _)
      rw [show q.1 = L from e1, e2] at this; exact this
    have ea := sameUp_addr up
    have keep' : ∀ b o, b ≠ L → b ∉ frA frs → b ≠ a → s.heap.get? b = some o → h2.get? b = some o := fun b o b1 b2 b3 e => keep b o (fun hm => (List.mem_cons.mp hm).elim b1 b2) b3 e
    refine k v h2 tk2 frs' vs' n' up (Fs.up up) ea ⟨ns h2 sl hL, fun b o e => keep' b o (Nat.ne_of_lt (Nat.lt_of_lt_of_le (Heap.lt_size e) F.above)) (fun hm => ?_) (fun q => ?_) (F.keep b o e), F.above⟩ (fun p hp => ?_) p
    · obtain ⟨p, hp, rfl⟩ := List.mem_map.mp hm
      rw [(N' p (List.mem_append_right _ hp)).2.2] at e; cases e
    · rw [q, ha0] at e; cases e
    · rcases List.mem_cons.mp hp with rfl | hp
      · exact ⟨hgot, haL, ha0⟩
      · rcases List.mem_append.mp hp with hp | hp
        · have n := N' p (List.mem_append_left _ hp)
          exact ⟨keep' _ _ n.2.1 (hap p (.tail _ hp)) (hna p hp) n.1, n.2⟩
        · have : p.1 ∈ frA frs := by rw [← ea]; exact List.mem_map.mpr ⟨p, hp, rfl⟩
          obtain ⟨x, hx, e⟩ := List.mem_map.mp this
          have n := N' x (List.mem_append_right _ hx)
          exact ⟨there p (.tail _ hp), by rw [← e]; exact n.2.1, by rw [← e]; exact n.2.2⟩
end
end Mine
end
section
open PySem PySem.W PyProof.Rows PySem.Calls
set_option Elab.async false
set_option maxRecDepth 100000
namespace Mine
noncomputable abbrev loose01 : List Str := looseW hd.view_39 [Str.ofString "_twin_re_1", Str.ofString "_ver_stages", Str.ofString "insort_right", Str.ofString "bisect_right", Str.ofString "insort_left", Str.ofString "bisect_left"]
structure Gd (w : World) (mg mb : Str → Option Value) (h : Heap) : Prop where
  X : (hd.heap_39 w.params).In h
  T : TopRead hd.view_39 loose01 mg mb h
theorem Gd.keeps {w : World} {mg mb : Str → Option Value} {h h' : Heap} (G : Gd w mg mb h) (hk : ∀ b o, h.get? b = some o → h'.get? b = some o) : Gd w mg mb h' := ⟨G.X.keeps hk, G.T.keeps hk⟩
end Mine
end
section
open PySem PySem.W PyProof.Rows PySem.Calls
set_option Elab.async false
set_option maxRecDepth 100000
namespace Mine

set_option maxHeartbeats 8000000 in
theorem cv_spec {w : World} {mg mb : Str → Option Value} {A : PySem.Around} {s : Shared} {R : Result → Shared → Prop} {h₀ : Heap} {outer : List Env} {frs : List (Addr × Obj)} {x : Str} {tk : Tok}
    (G : Gd w mg mb h₀) (B : Bs h₀ outer frs s.heap) (hA : A.frames = some outer) (hroom : A.depth + 10 < recursionLimit) (hh : A.handled = none) (hx : x.cps.size ≤ 1000) (hT : ∀ v ∈ toks x.cps x.cps.size 0, TokOk v)
    (k : ∀ h' tk' frs' a vs n, Kx frs frs' s.heap h' → h'.get? a = some (W.listOf (List.toArray vs) n) → s.heap.get? a = none → AV vs ((toks x.cps x.cps.size 0).flatMap atomsOf) → R (.ok (.ret (.ref a))) { s with heap := h', toks := tk' }) :
    codeC (model Challenge.rw_ph0088_01.row.prog w) A (.call (.ref 44) ⟨[.str x tk], []⟩) R s := by
  have X := (G.keeps B.base).X
  have T := (G.keeps B.base).T
  revert X; k_fill; intro X
  refine call_C (K := hd.heap_39 w.params) (binds := [(Str.ofString "version", .str x tk)]) B G.X G.T.nolimit rfl rfl (by omega) (BindsTo.of_eq rfl) rfl (fun L h₁ F N => ?_)
  refine wpC_execs_any ?_
  k_steps
  refine wpC_execs_any ?_
  k_steps
  refine wpC_execs_cons (wpC_For ?_)
  k_steps
  rename Fr _ _ _ _ => F
  rename News _ _ _ _ => N
  rename_i r _ hrf h'
  refine getMethod_split (F.keep 36 _ (X 36 _ rfl)) ?_
  k_steps
  refine call_split (F.keep 36 _ (X 36 _ rfl)) (F.keep 35 _ (X 35 _ rfl)) hx ?_
  intro vs tk2 hsv
  have F2 := F.push { cls := .type "list", data := .seq vs.toArray }
  have N2 := News.push F N { cls := .type "list", data := .seq vs.toArray }
  have hr := Heap.lt_size (N _ (.head _)).1
  have hl0 : (r, W.listOf #[] 0).1 ≠ L := (N _ (.head _)).2.1
  dsimp only at F2 N2 hr hl0 ⊢
  refine iterC_list (fun i m' nx => ∃ vals n frs', nx = (r, W.listOf (List.toArray vals) n) :: frs' ∧ TI.SameUp frs frs' ∧ TI.Frs outer frs' ∧ m' (Str.ofString "result") = some (.ref r) ∧ AV vals (((toks x.cps x.cps.size 0).take i).flatMap atomsOf)) hh ⟨_, Heap.get?_push_size _ rfl, rfl, _, rfl⟩ ?_ F2 (fun p hp => N2 p (.tail _ hp)) ⟨[], 0, frs, rfl, TI.SameUp.refl _, B.isf, rfl, .nil⟩ ?_ ?_ ?_
  · exact Nat.ne_of_gt F.ns.lt
  · rintro i v m₁ news₁ h tk3 I hv hI ⟨vals, n, frs', rfl, SU, Fs, hm, hav⟩ F3 N3 hit hlist
    have F4 := pin F3 (a := Str.ofString "result") hm
    have hIr : I ≠ r := by
      intro e; subst e
      rw [Heap.get?_push_of_some _ (N _ (.head _)).1] at hI; cases hI
    have hlr : h'.objs.size ≠ r := Nat.ne_of_gt hr
    have hof : OwnOff frs' [r] := by
      intro p hp b hb e
      rw [List.mem_singleton.mp hb] at e
      have : p.1 ∈ frA frs := by rw [← sameUp_addr SU]; exact List.mem_map.mpr ⟨p, hp, rfl⟩
      obtain ⟨q, hq, e'⟩ := List.mem_map.mp this
      have := hrf q hq
      rw [e', e] at this
      exact Nat.lt_irrefl _ this
    obtain ⟨oI, hoI, hcI⟩ := id hit
    obtain ⟨ol, hol, hcl⟩ := id hlist
    have hIL : I ≠ L := by
      rintro rfl
      obtain ⟨oL, _, _, hL, _⟩ := F.ns
      rw [Heap.get?_push_of_some _ hL] at hI; cases hI
    have hI0 : (bas s.heap frs).get? I = none := by
      cases q : (bas s.heap frs).get? I with
      | none => rfl
      | some o => rw [Heap.get?_push_of_some _ (F.keep I o q)] at hI; cases hI
    have hl0' : (bas s.heap frs).get? h'.objs.size = none := Heap.get?_none_of_le (Nat.le_trans F.above (Nat.le_of_lt F.ns.lt))
    have N4 : News (bas s.heap frs) L h ((r, W.listOf vals.toArray n) :: (I, oI) :: (h'.objs.size, ol) :: frs') := by
      intro p hp
      rcases List.mem_cons.mp hp with rfl | hp
      · exact N3 _ (.head _)
      · rcases List.mem_cons.mp hp with rfl | hp
        · exact ⟨hoI, hIL, hI0⟩
        · rcases List.mem_cons.mp hp with rfl | hp
          · exact ⟨hol, Nat.ne_of_gt F.ns.lt, hl0'⟩
          · exact N3 p (.tail _ hp)
    have hdone : ∀ (h₂ : Heap), News (bas s.heap frs) L h₂ [(I, oI), (h'.objs.size, ol)] → ∀ b, (b = I ∨ b = h'.objs.size) → ∀ o, h.get? b = some o → h₂.get? b = some o := by
      rintro h₂ n₂ b (rfl | rfl) o e
      · rw [hoI] at e; cases e; exact (n₂ _ (.head _)).1
      · rw [hol] at e; cases e; exact (n₂ _ (.tail _ (.head _))).1
    have hap : ∀ q ∈ [(r, W.listOf vals.toArray n), (I, oI), (h'.objs.size, ol)], q.1 ∉ frA frs' := by
      intro q hq hm
      rw [sameUp_addr SU] at hm
      obtain ⟨p, hp, e⟩ := List.mem_map.mp hm
      have hp' := (N p (.tail _ hp)).1
      rcases List.mem_cons.mp hq with rfl | hq
      · have := hrf p hp
        rw [show p.1 = r from e] at this
        exact Nat.lt_irrefl _ this
      · rcases List.mem_cons.mp hq with rfl | hq
        · have e' : p.1 = I := e
          rw [e'] at hp'
          rw [Heap.get?_push_of_some _ hp'] at hI; cases hI
        · rw [List.mem_singleton.mp hq] at e
          exact absurd (Heap.lt_size hp') (by rw [show p.1 = h'.objs.size from e]; exact Nat.lt_irrefl _)
    have hvz : vals.length ≤ 100000 := by
      rw [hav.length]
      have h1 := toks_length x.cps x.cps.size 0
      have h2 := atoms_le ((toks x.cps x.cps.size 0).take i)
      have h3 : ((toks x.cps x.cps.size 0).take i).length ≤ (toks x.cps x.cps.size 0).length := by rw [List.length_take]; omega
      omega
    clear N3
    clear F2 N2 F N hm F3
    obtain ⟨vx, hvx, vt, rfl⟩ := hsv.at hv
    have htok := hT vx (List.mem_of_getElem? hvx)
    have hnext : (((toks x.cps x.cps.size 0).take (i + 1)).flatMap atomsOf) = (((toks x.cps x.cps.size 0).take i).flatMap atomsOf) ++ atomsOf vx := by
      rw [List.take_add_one, hvx]; simp
    rw [hnext]
    dsimp only at hit hlist hI ⊢
    refine wpC_execs_cons (wpC_If (wpC_of_any ?_))
    k_steps
    · rename_i hskip
      have hs : skipTok vx = false := by unfold skipTok; rw [hskip]; rfl
      refine wpC_execs_cons (wpC_Try_except ?_)
      rcases htok with hk | ⟨num, hk, hlen⟩ | ⟨hk, hw1, hw2, hw3⟩
      · rw [hs] at hk; cases hk
      · have ha : atomsOf vx = [.i 100, .i num] := by unfold atomsOf; rw [hs, hk]; rfl
        refine wpC_of_any ?_
        k_steps
        refine int_num hk hlen ?_
        k_steps
        dsimp only
        refine wpC_execs_any ?_
        k_steps
        rename Fr _ _ _ _ => F7
        rename News _ _ _ _ => N7
        rename_i l7
        refine extend_pair F7 N7 (Nat.ne_of_gt l7.1) ?_ hvz ?_
        · intro p hp
          rcases List.mem_cons.mp hp with rfl | hp
          · exact hIr
          · rcases List.mem_cons.mp hp with rfl | hp
            · exact hlr
            · exact hof p hp r (List.mem_singleton.mpr rfl)
        intro h8 F8 N8
        refine wpC_execs_nil (wpC_execs_nil ?_)
        obtain ⟨N9, N10⟩ := news_pick N8
        exact ⟨_, _, _, _, rfl, F8, N9, hdone h8 N10, _, _, frs', rfl, SU, Fs, rfl, by rw [ha]; exact hav.append (.int (.int .nil))⟩
      · have ha : atomsOf vx = [.i (stageOf vx), .s vx] := by unfold atomsOf; rw [hs, hk]; rfl
        refine wpC_execs_cons (wpC_Assign_Name (wpC_Call_Name ?_))
        k_steps
        refine wpC_callWith_type1 ?_
        k_steps
        refine int_word hw1 hw2 hw3 hh ?_
        intro h5 tk5 e5 hx5
        refine caught_C (new := [(r, W.listOf vals.toArray n), (I, oI), (h'.objs.size, ol)]) hA Fs hx5 F4 N4 hap T ?_
        intro h6 frs6 SU6 Fs6 F6 N6
        clear N4 F4
        k_steps
        rename PyProof.V.Flat _ _ => hfl
        obtain ⟨t9, rfl⟩ := stage_flat hfl
        dsimp only
        refine wpC_execs_any ?_
        k_steps
        rename Fr _ _ _ _ => F7
        rename News _ _ _ _ => N7
        rename_i l7
        have hof6 : ∀ p ∈ frs6, p.1 ≠ r := by
          intro p hp e
          have : p.1 ∈ frA frs' := by rw [← sameUp_addr SU6]; exact List.mem_map.mpr ⟨p, hp, rfl⟩
          exact hap _ (.head _) (e ▸ this)
        refine extend_pair F7 N7 (Nat.ne_of_gt (l7 _ (.head _))) ?_ hvz ?_
        · intro p hp
          rcases List.mem_cons.mp hp with rfl | hp
          · exact hIr
          · rcases List.mem_cons.mp hp with rfl | hp
            · exact hlr
            · exact hof6 p hp
        intro h8 F8 N8
        refine wpC_execs_nil (wpC_execs_nil ?_)
        obtain ⟨N9, N10⟩ := news_pick N8
        exact ⟨_, _, _, _, rfl, F8, N9, hdone h8 N10, _, _, frs6, rfl, SU.trans SU6, Fs6, rfl, by rw [ha]; exact hav.append (.int (.str .nil))⟩
    · rename_i hskip
      have hs : skipTok vx = true := by unfold skipTok; rw [hskip]; rfl
      have ha : atomsOf vx = [] := by unfold atomsOf; rw [hs]; rfl
      have N4' : News (bas s.heap frs) L h ((r, W.listOf vals.toArray n) :: frs') := fun p hp => N4 p ((List.mem_cons.mp hp).elim (fun e => e ▸ .head _) fun q => .tail _ (.tail _ (.tail _ q)))
      refine wpC_execs_nil (wpC_execs_nil ?_)
      exact ⟨_, _, _, _, rfl, F4, N4', fun b hb o e => e, vals, n, frs', rfl, SU, Fs, rfl, by rw [ha, List.append_nil]; exact hav⟩
  · rintro i m' news' ⟨vals, n, frs', rfl, SU, Fs, hm, hav⟩ p hp e
    have e' : p.1 = h'.objs.size + 1 := by rw [e]; exact Heap.size_push _ _
    rcases List.mem_cons.mp hp with rfl | hp
    · have : r = h'.objs.size + 1 := e'
      exact absurd hr (by rw [this]; exact Nat.not_lt.mpr (Nat.le_succ _))
    · have : p.1 ∈ frA frs := by rw [← sameUp_addr SU]; exact List.mem_map.mpr ⟨p, hp, rfl⟩
      obtain ⟨q, hq, e2⟩ := List.mem_map.mp this
      have h1 := hrf q hq
      rw [show q.1 = p.1 from e2, e'] at h1
      exact absurd (Nat.lt_trans h1 hr) (Nat.not_lt.mpr (Nat.le_succ _))
  · rintro m₁ news₁ h9 tk9 ⟨vals, n, frs', rfl, SU, Fs, hm, hav⟩ F9 N9
    have F10 := pin F9 (a := Str.ofString "result") hm
    rw [hsv.length, List.take_length] at hav
    have hr0 : s.heap.get? r = none := by
      cases q : s.heap.get? r with
      | none => rfl
      | some o =>
        have h1 := (N _ (.head _)).2.2
        rw [TI.gone_get fun hm => by obtain ⟨p, hp, e⟩ := List.mem_map.mp hm; have := hrf p hp; rw [show p.1 = r from e] at this; exact Nat.lt_irrefl _ this, q] at h1
        cases h1
    have hget := (N9 _ (.head _)).1
    have hthere : ∀ p ∈ frs', h9.get? p.1 = some p.2 := fun p hp => (N9 p (.tail _ hp)).1
    clear F F2 N N2 F9
    dsimp only
    refine wpC_execs_any ?_
    k_steps
    exact k _ _ _ _ _ _ (Kx.of F10 SU hthere) hget hr0 hav
end Mine
end
section
open PySem PySem.W PyProof.Rows PySem.Calls
set_option Elab.async false
set_option linter.unusedVariables false
set_option maxRecDepth 100000
namespace Mine
theorem deeper_room {A : PySem.Around} {env : Env} {n k : Nat} (h : A.depth + (n + 1) < k) : (A.deeper env).depth + n < k := by
  show A.depth + 1 + n < k; omega
theorem cv_at {w : World} {mg mb : Str → Option Value} {A : PySem.Around} {E : Value → Shared → Prop} {s : Shared} {h₀ hb : Heap} {outer : List Env} {frs news : List (Addr × Obj)} {L g : Addr} {m : Str → Option Value} {name : Str} {scope : Scope} {cd : Value}
    {x : Str} {tk : Tok} {Q : Value → Shared → Prop}
    (G : Gd w mg mb h₀) (hb0 : ∀ b o, h₀.get? b = some o → hb.get? b = some o) (F : Fr hb L s.heap m) (N : News hb L s.heap (news ++ frs)) (Fs : TI.Frs outer frs) (hap : ∀ p ∈ news, p.1 ∉ frA frs) (hA : A.frames = some outer)
    (hroom : A.depth + 11 < recursionLimit) (hh : A.handled = none) (hx : LabOk x)
    (k : ∀ h' tk' frs' a vs n, TI.SameUp frs frs' → TI.Frs outer frs' → frA frs' = frA frs → Fr hb L h' m → News hb L h' ((a, W.listOf (List.toArray vs) n) :: (news ++ frs')) → (∀ p ∈ news ++ frs', p.1 ≠ a) → AV vs (keyOf x) → Q (.ref a) { s with heap := h', toks := tk' })
    (hk : scope.kind = .function := by rfl) :
    wpC (model Challenge.rw_ph0088_01.row.prog w) (A.deeper (envOf name scope L g cd)) (call (.ref 44) [.str x tk]) Q E s := by
  refine at_C (h₀ := h₀) (fun v h' => ∃ a vs n, v = .ref a ∧ h'.get? a = some (W.listOf (List.toArray vs) n) ∧ s.heap.get? a = none ∧ AV vs (keyOf x)) hb0 F N Fs hap hA (fun oL B' hA' => ?_) ?_ hk
  · refine cv_spec G B' hA' (deeper_room hroom) hh hx.size hx.ok ?_
    intro h' tk' frs' a vs n K ha hn hav
    exact ⟨_, h', tk', frs', rfl, rfl, K, a, vs, n, rfl, ha, hn, hav⟩
  · rintro v h' tk' frs' SU Fs' ea F' N' ⟨a, vs, n, rfl, ha, hn, hav⟩
    refine k h' tk' frs' a vs n SU Fs' ea F' ?_ ?_ hav
    · intro p hp
      rcases List.mem_cons.mp hp with rfl | hp
      · refine ⟨ha, ?_, ?_⟩
        · rintro rfl
          obtain ⟨oL, _, _, hL, _⟩ := F.ns
          rw [hL] at hn; cases hn
        · cases q : hb.get? a with
          | none => rfl
          | some o => rw [F.keep a o q] at hn; cases hn
      · exact N' p hp
    · intro p hp e
      rcases List.mem_append.mp hp with hp | hp
      · have := (N p (List.mem_append_left _ hp)).1
        rw [e, hn] at this; cases this
      · have : p.1 ∈ frA frs := by rw [← ea]; exact List.mem_map.mpr ⟨p, hp, rfl⟩
        obtain ⟨q, hq, e'⟩ := List.mem_map.mp this
        have := (N q (List.mem_append_right _ hq)).1
        rw [show q.1 = p.1 from e', e, hn] at this; cases this
end Mine
end
section
open PySem PySem.W PyProof.Rows PySem.Calls
set_option Elab.async false
set_option linter.unusedVariables false
set_option maxRecDepth 100000
namespace Mine

set_option maxHeartbeats 8000000 in
theorem bl_spec {w : World} {mg mb : Str → Option Value} {A : PySem.Around} {s : Shared} {R : Result → Shared → Prop} {h₀ : Heap} {outer : List Env} {frs : List (Addr × Obj)}
    {a x : Addr} {vs us : List Value} {n n' : Nat} {ls : List Str} {ks : List Atom} {lo hi r : Nat} {tl th : Tok}
    (G : Gd w mg mb h₀) (B : Bs h₀ outer frs s.heap) (hA : A.frames = some outer) (hroom : A.depth + 20 < recursionLimit) (hu : A.units + 100 < cLine) (hh : A.handled = none)
    (ha : s.heap.get? a = some (W.listOf vs.toArray n)) (hvs : SV vs ls) (hx : s.heap.get? x = some (W.listOf us.toArray n')) (hus : AV us ks) (hok : ∀ l ∈ ls, LabOk l)
    (haf : a ∉ frA frs) (hxf : x ∉ frA frs)
    (hloh : lo ≤ r) (hrh : r ≤ hi) (hhi : hi ≤ ls.length) (hlen : ls.length ≤ 1000)
    (hcmp : ∀ m l, lo ≤ m → m < hi → ls[m]? = some l → Comp (keyOf l) ks ∧ rowLt (keyOf l) ks = decide (m < r))
    (k : ∀ h' tk' frs' t, Kx frs frs' s.heap h' → R (.ok (.ret (.int (r : Int) t))) { s with heap := h', toks := tk' }) :
    codeC (model Challenge.rw_ph0088_01.row.prog w) A (.call (.ref 80) ⟨[.ref a, .ref x, .int (lo : Int) tl, .int (hi : Int) th], [(Str.ofString "key", .ref 44)]⟩) R s := by
  have X := (G.keeps B.base).X
  have T := (G.keeps B.base).T
  have habase := (TI.gone_get haf).trans ha
  revert X; k_fill; intro X
  refine call_C (K := hd.heap_39 w.params) (binds := [(Str.ofString "a", .ref a), (Str.ofString "x", .ref x), (Str.ofString "lo", .int (lo : Int) tl), (Str.ofString "hi", .int (hi : Int) th), (Str.ofString "key", .ref 44)]) B G.X G.T.nolimit rfl rfl (by omega) ?bind rfl (fun L h₁ F N => ?_)
  case bind => exact binds_K (G.keeps B.stay).X rfl rfl rfl rfl rfl
  have hlo0 : ¬ (lo : Int) < 0 := by omega
  refine wpC_execs_any ?_
  k_steps
  try dsimp only
  refine wpC_execs_any ?_
  k_steps
  try dsimp only
  refine wpC_execs_cons (wpC_If (wpC_of_any ?_))
  k_steps
  refine wpC_execs_cons (wpC_While ?_)
  refine codeC_whileLoop (fun d s' => ∃ h tk m' frs' lo' hi' t1 t2, s' = { s with heap := h, toks := tk } ∧ Fr (bas s.heap frs) L h m' ∧ News (bas s.heap frs) L h frs' ∧ TI.SameUp frs frs' ∧ TI.Frs outer frs' ∧
    m' (Str.ofString "a") = some (.ref a) ∧ m' (Str.ofString "x") = some (.ref x) ∧ m' (Str.ofString "key") = some (.ref 44) ∧ m' (Str.ofString "lo") = some (.int ((lo' : Nat) : Int) t1) ∧ m' (Str.ofString "hi") = some (.int ((hi' : Nat) : Int) t2) ∧
    lo ≤ lo' ∧ lo' ≤ r ∧ r ≤ hi' ∧ hi' ≤ hi ∧ d = hi' - lo') ?_ (hi - lo) ⟨h₁, _, _, frs, lo, hi, _, _, rfl, F, N, TI.SameUp.refl _, B.isf, rfl, rfl, rfl, rfl, rfl, Nat.le_refl _, hloh, hrh, Nat.le_refl _, rfl⟩
  clear F N
  rintro d s' ⟨h, tk, m', frs', lo', hi', t1, t2, rfl, F, N, SU, Fs, ma, mx, mk, ml, mh, e1, e2, e3, e4, rfl⟩
  have F' := pins F [(Str.ofString "a", .ref a), (Str.ofString "x", .ref x), (Str.ofString "key", .ref 44), (Str.ofString "lo", .int ((lo' : Nat) : Int) t1), (Str.ofString "hi", .int ((hi' : Nat) : Int) t2)] ⟨ma, mx, mk, ml, mh, trivial⟩
  clear F
  refine wpC_of_any ?_
  k_steps
  · rename_i hlt
    have hlt : lo' < hi' := by omega
    have hm : ((lo' : Int) + (hi' : Int)).fdiv 2 = (((lo' + hi') / 2 : Nat) : Int) := by rw [Int.fdiv_eq_ediv_of_nonneg _ (by decide)]; omega
    refine wpC_execs_any ?_
    k_steps
    rename Fr _ _ _ _ => F
    rename News _ _ _ _ => N
    rw [hm] at F
    dsimp only at F N ⊢
    generalize hmid : (lo' + hi') / 2 = mid at F
    obtain ⟨l, hl⟩ : ∃ l, ls[mid]? = some l := ⟨_, List.getElem?_eq_getElem (by omega)⟩
    obtain ⟨v, hv, t3, rfl⟩ : ∃ v, vs[mid]? = some v ∧ ∃ t, v = .str l t := by
      obtain ⟨v, hv⟩ : ∃ v, vs[mid]? = some v := ⟨_, List.getElem?_eq_getElem (by rw [hvs.length]; omega)⟩
      obtain ⟨l', hl', t, rfl⟩ := hvs.at hv
      rw [hl] at hl'; cases hl'
      exact ⟨_, hv, t, rfl⟩
    have hlk := hok l (List.mem_of_getElem? hl)
    obtain ⟨hc1, hc2⟩ := hcmp mid l (by omega) (by omega) hl
    have ha0 := F.keep a _ habase
    refine wpC_execs_cons (wpC_If (wpC_isTrue_Compare1 (wpC_Call_Name ?_)))
    k_steps
    refine wpC_call_K0 (K := hd.heap_39 w.params) rfl (wpC_of_any ?_)
    k_steps
    refine item_litK (vs := vs) ⟨_, ha0, rfl, _, rfl⟩ (by omega) (by omega) (v := .str l t3) (by simpa using hv) ?_
    k_steps
    refine cv_at (news := []) G B.base F N Fs (fun _ h => by cases h) hA (by omega) hh hlk ?_
    intro h4 tk4 frs4 b4 vs4 n4 SU4 Fs4 ea4 F4 N4 hb4 hav4
    have hx4 := F4.keep x _ ((TI.gone_get hxf).trans hx)
    clear F N
    dsimp only [List.nil_append] at N4 hb4 ⊢
    refine wpC_of_any ?_
    k_steps
    refine lt_lists hav4 hus hc1 (N4 _ (.head _)).1 hx4 (by show A.units + _ < _; omega) ?_
    have N6 : News (bas s.heap frs) L h4 frs4 := fun p hp => N4 p (.tail _ hp)
    clear N4
    rw [hc2]
    by_cases hmr : mid < r
    · rw [decide_eq_true hmr]
      k_steps
      refine wpC_execs_any ?_
      k_steps
      dsimp only
      refine wpC_execs_nil ?_
      rename Fr _ _ _ _ => F
      rename News _ _ _ _ => N
      refine wpC_execs_nil ?_
      exact ⟨hi' - (mid + 1), by omega, _, _, _, frs4, mid + 1, hi', _, t2, rfl, F, N, SU.trans SU4, Fs4, rfl, rfl, rfl, rfl, rfl, by omega, by omega, by omega, by omega, rfl⟩
    · rw [decide_eq_false hmr]
      k_steps
      refine wpC_execs_any ?_
      k_steps
      dsimp only
      refine wpC_execs_nil ?_
      rename Fr _ _ _ _ => F
      rename News _ _ _ _ => N
      refine wpC_execs_nil ?_
      exact ⟨mid - lo', by omega, _, _, _, frs4, lo', mid, t1, _, rfl, F, N, SU.trans SU4, Fs4, rfl, rfl, rfl, rfl, rfl, by omega, by omega, by omega, by omega, rfl⟩
  · rename_i hlt
    have hlr : lo' = r := by omega
    subst hlr
    dsimp only
    refine wpC_execs_nil ?_
    dsimp only
    refine wpC_execs_any ?_
    k_steps
    rename News _ _ _ _ => N
    exact k _ _ _ _ (Kx.of F' SU fun p hp => (N p hp).1)


set_option maxHeartbeats 8000000 in
theorem br_spec {w : World} {mg mb : Str → Option Value} {A : PySem.Around} {s : Shared} {R : Result → Shared → Prop} {h₀ : Heap} {outer : List Env} {frs : List (Addr × Obj)}
    {a x : Addr} {vs us : List Value} {n n' : Nat} {ls : List Str} {ks : List Atom} {lo hi r : Nat} {tl th : Tok}
    (G : Gd w mg mb h₀) (B : Bs h₀ outer frs s.heap) (hA : A.frames = some outer) (hroom : A.depth + 20 < recursionLimit) (hu : A.units + 100 < cLine) (hh : A.handled = none)
    (ha : s.heap.get? a = some (W.listOf vs.toArray n)) (hvs : SV vs ls) (hx : s.heap.get? x = some (W.listOf us.toArray n')) (hus : AV us ks) (hok : ∀ l ∈ ls, LabOk l)
    (haf : a ∉ frA frs) (hxf : x ∉ frA frs)
    (hloh : lo ≤ r) (hrh : r ≤ hi) (hhi : hi ≤ ls.length) (hlen : ls.length ≤ 1000)
    (hcmp : ∀ m l, lo ≤ m → m < hi → ls[m]? = some l → Comp ks (keyOf l) ∧ rowLt ks (keyOf l) = decide (r ≤ m))
    (k : ∀ h' tk' frs' t, Kx frs frs' s.heap h' → R (.ok (.ret (.int (r : Int) t))) { s with heap := h', toks := tk' }) :
    codeC (model Challenge.rw_ph0088_01.row.prog w) A (.call (.ref 62) ⟨[.ref a, .ref x, .int (lo : Int) tl, .int (hi : Int) th], [(Str.ofString "key", .ref 44)]⟩) R s := by
  have X := (G.keeps B.base).X
  have T := (G.keeps B.base).T
  have habase := (TI.gone_get haf).trans ha
  revert X; k_fill; intro X
  refine call_C (K := hd.heap_39 w.params) (binds := [(Str.ofString "a", .ref a), (Str.ofString "x", .ref x), (Str.ofString "lo", .int (lo : Int) tl), (Str.ofString "hi", .int (hi : Int) th), (Str.ofString "key", .ref 44)]) B G.X G.T.nolimit rfl rfl (by omega) ?bind rfl (fun L h₁ F N => ?_)
  case bind => exact binds_K (G.keeps B.stay).X rfl rfl rfl rfl rfl
  have hlo0 : ¬ (lo : Int) < 0 := by omega
  refine wpC_execs_any ?_
  k_steps
  try dsimp only
  refine wpC_execs_any ?_
  k_steps
  try dsimp only
  refine wpC_execs_cons (wpC_If (wpC_of_any ?_))
  k_steps
  refine wpC_execs_cons (wpC_While ?_)
  refine codeC_whileLoop (fun d s' => ∃ h tk m' frs' lo' hi' t1 t2, s' = { s with heap := h, toks := tk } ∧ Fr (bas s.heap frs) L h m' ∧ News (bas s.heap frs) L h frs' ∧ TI.SameUp frs frs' ∧ TI.Frs outer frs' ∧
    m' (Str.ofString "a") = some (.ref a) ∧ m' (Str.ofString "x") = some (.ref x) ∧ m' (Str.ofString "key") = some (.ref 44) ∧ m' (Str.ofString "lo") = some (.int ((lo' : Nat) : Int) t1) ∧ m' (Str.ofString "hi") = some (.int ((hi' : Nat) : Int) t2) ∧
    lo ≤ lo' ∧ lo' ≤ r ∧ r ≤ hi' ∧ hi' ≤ hi ∧ d = hi' - lo') ?_ (hi - lo) ⟨h₁, _, _, frs, lo, hi, _, _, rfl, F, N, TI.SameUp.refl _, B.isf, rfl, rfl, rfl, rfl, rfl, Nat.le_refl _, hloh, hrh, Nat.le_refl _, rfl⟩
  clear F N
  rintro d s' ⟨h, tk, m', frs', lo', hi', t1, t2, rfl, F, N, SU, Fs, ma, mx, mk, ml, mh, e1, e2, e3, e4, rfl⟩
  have F' := pins F [(Str.ofString "a", .ref a), (Str.ofString "x", .ref x), (Str.ofString "key", .ref 44), (Str.ofString "lo", .int ((lo' : Nat) : Int) t1), (Str.ofString "hi", .int ((hi' : Nat) : Int) t2)] ⟨ma, mx, mk, ml, mh, trivial⟩
  clear F
  refine wpC_of_any ?_
  k_steps
  · rename_i hlt
    have hlt : lo' < hi' := by omega
    have hm : ((lo' : Int) + (hi' : Int)).fdiv 2 = (((lo' + hi') / 2 : Nat) : Int) := by rw [Int.fdiv_eq_ediv_of_nonneg _ (by decide)]; omega
    refine wpC_execs_any ?_
    k_steps
    rename Fr _ _ _ _ => F
    rename News _ _ _ _ => N
    rw [hm] at F
    dsimp only at F N ⊢
    generalize hmid : (lo' + hi') / 2 = mid at F
    obtain ⟨l, hl⟩ : ∃ l, ls[mid]? = some l := ⟨_, List.getElem?_eq_getElem (by omega)⟩
    obtain ⟨v, hv, t3, rfl⟩ : ∃ v, vs[mid]? = some v ∧ ∃ t, v = .str l t := by
      obtain ⟨v, hv⟩ : ∃ v, vs[mid]? = some v := ⟨_, List.getElem?_eq_getElem (by rw [hvs.length]; omega)⟩
      obtain ⟨l', hl', t, rfl⟩ := hvs.at hv
      rw [hl] at hl'; cases hl'
      exact ⟨_, hv, t, rfl⟩
    have hlk := hok l (List.mem_of_getElem? hl)
    obtain ⟨hc1, hc2⟩ := hcmp mid l (by omega) (by omega) hl
    have ha0 := F.keep a _ habase
    refine wpC_execs_cons (wpC_If (wpC_isTrue_Compare1 (wpC_of_any ?_)))
    k_steps
    refine wpC_Call_Name ?_
    k_steps
    refine wpC_call_K0 (K := hd.heap_39 w.params) rfl (wpC_of_any ?_)
    k_steps
    refine item_litK (vs := vs) ⟨_, ha0, rfl, _, rfl⟩ (by omega) (by omega) (v := .str l t3) (by simpa using hv) ?_
    k_steps
    refine cv_at (news := []) G B.base F N Fs (fun _ h => by cases h) hA (by omega) hh hlk ?_
    intro h4 tk4 frs4 b4 vs4 n4 SU4 Fs4 ea4 F4 N4 hb4 hav4
    have hx4 := F4.keep x _ ((TI.gone_get hxf).trans hx)
    clear F N
    dsimp only [List.nil_append] at N4 hb4 ⊢
    refine lt_lists hus hav4 hc1 hx4 (N4 _ (.head _)).1 (by show A.units + _ < _; omega) ?_
    have N6 : News (bas s.heap frs) L h4 frs4 := fun p hp => N4 p (.tail _ hp)
    clear N4
    rw [hc2]
    by_cases hmr : r ≤ mid
    · rw [decide_eq_true hmr]
      k_steps
      refine wpC_execs_any ?_
      k_steps
      dsimp only
      refine wpC_execs_nil ?_
      rename Fr _ _ _ _ => F
      rename News _ _ _ _ => N
      refine wpC_execs_nil ?_
      exact ⟨mid - lo', by omega, _, _, _, frs4, lo', mid, t1, _, rfl, F, N, SU.trans SU4, Fs4, rfl, rfl, rfl, rfl, rfl, by omega, by omega, by omega, by omega, rfl⟩
    · rw [decide_eq_false hmr]
      k_steps
      refine wpC_execs_any ?_
      k_steps
      dsimp only
      refine wpC_execs_nil ?_
      rename Fr _ _ _ _ => F
      rename News _ _ _ _ => N
      refine wpC_execs_nil ?_
      exact ⟨hi' - (mid + 1), by omega, _, _, _, frs4, mid + 1, hi', _, t2, rfl, F, N, SU.trans SU4, Fs4, rfl, rfl, rfl, rfl, rfl, by omega, by omega, by omega, by omega, rfl⟩
  · rename_i hlt
    have hlr : lo' = r := by omega
    subst hlr
    dsimp only
    refine wpC_execs_nil ?_
    dsimp only
    refine wpC_execs_any ?_
    k_steps
    rename News _ _ _ _ => N
    exact k _ _ _ _ (Kx.of F' SU fun p hp => (N p hp).1)


set_option maxHeartbeats 8000000 in
theorem bl2_spec {w : World} {mg mb : Str → Option Value} {A : PySem.Around} {s : Shared} {R : Result → Shared → Prop} {h₀ : Heap} {outer : List Env} {frs : List (Addr × Obj)}
    {a x : Addr} {vs us : List Value} {n n' : Nat} {ls : List Str} {ks : List Atom} {r : Nat}
    (G : Gd w mg mb h₀) (B : Bs h₀ outer frs s.heap) (hA : A.frames = some outer) (hroom : A.depth + 20 < recursionLimit) (hu : A.units + 100 < cLine) (hh : A.handled = none)
    (ha : s.heap.get? a = some (W.listOf vs.toArray n)) (hvs : SV vs ls) (hx : s.heap.get? x = some (W.listOf us.toArray n')) (hus : AV us ks) (hok : ∀ l ∈ ls, LabOk l)
    (haf : a ∉ frA frs) (hxf : x ∉ frA frs)
    (hrh : r ≤ ls.length) (hlen : ls.length ≤ 1000)
    (hcmp : ∀ m l, 0 ≤ m → m < ls.length → ls[m]? = some l → Comp (keyOf l) ks ∧ rowLt (keyOf l) ks = decide (m < r))
    (k : ∀ h' tk' frs' t, Kx frs frs' s.heap h' → R (.ok (.ret (.int (r : Int) t))) { s with heap := h', toks := tk' }) :
    codeC (model Challenge.rw_ph0088_01.row.prog w) A (.call (.ref 80) ⟨[.ref a, .ref x], [(Str.ofString "key", .ref 44)]⟩) R s := by
  have X := (G.keeps B.base).X
  have T := (G.keeps B.base).T
  have habase := (TI.gone_get haf).trans ha
  revert X; k_fill; intro X
  refine call_C (K := hd.heap_39 w.params) (binds := [(Str.ofString "a", .ref a), (Str.ofString "x", .ref x), (Str.ofString "lo", .int 0 415), (Str.ofString "hi", .none), (Str.ofString "key", .ref 44)]) B G.X G.T.nolimit rfl rfl (by omega) ?bind rfl (fun L h₁ F N => ?_)
  case bind => exact binds_K (G.keeps B.stay).X rfl rfl rfl rfl rfl
  refine wpC_execs_any ?_
  k_steps
  try dsimp only
  refine wpC_execs_any ?_
  k_steps
  try dsimp only
  have habase1 := F.keep a _ habase
  have esz : vs.toArray.size = ls.length := by rw [List.size_toArray, hvs.length]
  refine Calls.call_len_list ⟨_, habase1, rfl, _, rfl⟩ (by rw [esz]; omega) ?_
  rw [esz]
  k_steps
  try dsimp only
  rename Fr _ _ _ _ => F
  rename News _ _ _ _ => N
  refine wpC_execs_cons (wpC_If (wpC_of_any ?_))
  k_steps
  refine wpC_execs_cons (wpC_While ?_)
  refine codeC_whileLoop (fun d s' => ∃ h tk m' frs' lo' hi' t1 t2, s' = { s with heap := h, toks := tk } ∧ Fr (bas s.heap frs) L h m' ∧ News (bas s.heap frs) L h frs' ∧ TI.SameUp frs frs' ∧ TI.Frs outer frs' ∧
    m' (Str.ofString "a") = some (.ref a) ∧ m' (Str.ofString "x") = some (.ref x) ∧ m' (Str.ofString "key") = some (.ref 44) ∧ m' (Str.ofString "lo") = some (.int ((lo' : Nat) : Int) t1) ∧ m' (Str.ofString "hi") = some (.int ((hi' : Nat) : Int) t2) ∧
    0 ≤ lo' ∧ lo' ≤ r ∧ r ≤ hi' ∧ hi' ≤ ls.length ∧ d = hi' - lo') ?_ (ls.length - 0) ⟨_, _, _, frs, 0, ls.length, _, _, rfl, F, N, TI.SameUp.refl _, B.isf, rfl, rfl, rfl, rfl, rfl, Nat.le_refl _, Nat.zero_le _, hrh, Nat.le_refl _, rfl⟩
  clear F N
  rintro d s' ⟨h, tk, m', frs', lo', hi', t1, t2, rfl, F, N, SU, Fs, ma, mx, mk, ml, mh, e1, e2, e3, e4, rfl⟩
  have F' := pins F [(Str.ofString "a", .ref a), (Str.ofString "x", .ref x), (Str.ofString "key", .ref 44), (Str.ofString "lo", .int ((lo' : Nat) : Int) t1), (Str.ofString "hi", .int ((hi' : Nat) : Int) t2)] ⟨ma, mx, mk, ml, mh, trivial⟩
  clear F
  refine wpC_of_any ?_
  k_steps
  · rename_i hlt
    have hlt : lo' < hi' := by omega
    have hm : ((lo' : Int) + (hi' : Int)).fdiv 2 = (((lo' + hi') / 2 : Nat) : Int) := by rw [Int.fdiv_eq_ediv_of_nonneg _ (by decide)]; omega
    refine wpC_execs_any ?_
    k_steps
    rename Fr _ _ _ _ => F
    rename News _ _ _ _ => N
    rw [hm] at F
    dsimp only at F N ⊢
    generalize hmid : (lo' + hi') / 2 = mid at F
    obtain ⟨l, hl⟩ : ∃ l, ls[mid]? = some l := ⟨_, List.getElem?_eq_getElem (by omega)⟩
    obtain ⟨v, hv, t3, rfl⟩ : ∃ v, vs[mid]? = some v ∧ ∃ t, v = .str l t := by
      obtain ⟨v, hv⟩ : ∃ v, vs[mid]? = some v := ⟨_, List.getElem?_eq_getElem (by rw [hvs.length]; omega)⟩
      obtain ⟨l', hl', t, rfl⟩ := hvs.at hv
      rw [hl] at hl'; cases hl'
      exact ⟨_, hv, t, rfl⟩
    have hlk := hok l (List.mem_of_getElem? hl)
    obtain ⟨hc1, hc2⟩ := hcmp mid l (by omega) (by omega) hl
    have ha0 := F.keep a _ habase
    refine wpC_execs_cons (wpC_If (wpC_isTrue_Compare1 (wpC_Call_Name ?_)))
    k_steps
    refine wpC_call_K0 (K := hd.heap_39 w.params) rfl (wpC_of_any ?_)
    k_steps
    refine item_litK (vs := vs) ⟨_, ha0, rfl, _, rfl⟩ (by omega) (by omega) (v := .str l t3) (by simpa using hv) ?_
    k_steps
    refine cv_at (news := []) G B.base F N Fs (fun _ h => by cases h) hA (by omega) hh hlk ?_
    intro h4 tk4 frs4 b4 vs4 n4 SU4 Fs4 ea4 F4 N4 hb4 hav4
    have hx4 := F4.keep x _ ((TI.gone_get hxf).trans hx)
    clear F N
    dsimp only [List.nil_append] at N4 hb4 ⊢
    refine wpC_of_any ?_
    k_steps
    refine lt_lists hav4 hus hc1 (N4 _ (.head _)).1 hx4 (by show A.units + _ < _; omega) ?_
    have N6 : News (bas s.heap frs) L h4 frs4 := fun p hp => N4 p (.tail _ hp)
    clear N4
    rw [hc2]
    by_cases hmr : mid < r
    · rw [decide_eq_true hmr]
      k_steps
      refine wpC_execs_any ?_
      k_steps
      dsimp only
      refine wpC_execs_nil ?_
      rename Fr _ _ _ _ => F
      rename News _ _ _ _ => N
      refine wpC_execs_nil ?_
      exact ⟨hi' - (mid + 1), by omega, _, _, _, frs4, mid + 1, hi', _, t2, rfl, F, N, SU.trans SU4, Fs4, rfl, rfl, rfl, rfl, rfl, by omega, by omega, by omega, by omega, rfl⟩
    · rw [decide_eq_false hmr]
      k_steps
      refine wpC_execs_any ?_
      k_steps
      dsimp only
      refine wpC_execs_nil ?_
      rename Fr _ _ _ _ => F
      rename News _ _ _ _ => N
      refine wpC_execs_nil ?_
      exact ⟨mid - lo', by omega, _, _, _, frs4, lo', mid, t1, _, rfl, F, N, SU.trans SU4, Fs4, rfl, rfl, rfl, rfl, rfl, by omega, by omega, by omega, by omega, rfl⟩
  · rename_i hlt
    have hlr : lo' = r := by omega
    subst hlr
    dsimp only
    refine wpC_execs_nil ?_
    dsimp only
    refine wpC_execs_any ?_
    k_steps
    rename News _ _ _ _ => N
    exact k _ _ _ _ (Kx.of F' SU fun p hp => (N p hp).1)


set_option maxHeartbeats 8000000 in
theorem br2_spec {w : World} {mg mb : Str → Option Value} {A : PySem.Around} {s : Shared} {R : Result → Shared → Prop} {h₀ : Heap} {outer : List Env} {frs : List (Addr × Obj)}
    {a x : Addr} {vs us : List Value} {n n' : Nat} {ls : List Str} {ks : List Atom} {r : Nat}
    (G : Gd w mg mb h₀) (B : Bs h₀ outer frs s.heap) (hA : A.frames = some outer) (hroom : A.depth + 20 < recursionLimit) (hu : A.units + 100 < cLine) (hh : A.handled = none)
    (ha : s.heap.get? a = some (W.listOf vs.toArray n)) (hvs : SV vs ls) (hx : s.heap.get? x = some (W.listOf us.toArray n')) (hus : AV us ks) (hok : ∀ l ∈ ls, LabOk l)
    (haf : a ∉ frA frs) (hxf : x ∉ frA frs)
    (hrh : r ≤ ls.length) (hlen : ls.length ≤ 1000)
    (hcmp : ∀ m l, 0 ≤ m → m < ls.length → ls[m]? = some l → Comp ks (keyOf l) ∧ rowLt ks (keyOf l) = decide (r ≤ m))
    (k : ∀ h' tk' frs' t, Kx frs frs' s.heap h' → R (.ok (.ret (.int (r : Int) t))) { s with heap := h', toks := tk' }) :
    codeC (model Challenge.rw_ph0088_01.row.prog w) A (.call (.ref 62) ⟨[.ref a, .ref x], [(Str.ofString "key", .ref 44)]⟩) R s := by
  have X := (G.keeps B.base).X
  have T := (G.keeps B.base).T
  have habase := (TI.gone_get haf).trans ha
  revert X; k_fill; intro X
  refine call_C (K := hd.heap_39 w.params) (binds := [(Str.ofString "a", .ref a), (Str.ofString "x", .ref x), (Str.ofString "lo", .int 0 388), (Str.ofString "hi", .none), (Str.ofString "key", .ref 44)]) B G.X G.T.nolimit rfl rfl (by omega) ?bind rfl (fun L h₁ F N => ?_)
  case bind => exact binds_K (G.keeps B.stay).X rfl rfl rfl rfl rfl
  refine wpC_execs_any ?_
  k_steps
  try dsimp only
  refine wpC_execs_any ?_
  k_steps
  try dsimp only
  have habase1 := F.keep a _ habase
  have esz : vs.toArray.size = ls.length := by rw [List.size_toArray, hvs.length]
  refine Calls.call_len_list ⟨_, habase1, rfl, _, rfl⟩ (by rw [esz]; omega) ?_
  rw [esz]
  k_steps
  try dsimp only
  rename Fr _ _ _ _ => F
  rename News _ _ _ _ => N
  refine wpC_execs_cons (wpC_If (wpC_of_any ?_))
  k_steps
  refine wpC_execs_cons (wpC_While ?_)
  refine codeC_whileLoop (fun d s' => ∃ h tk m' frs' lo' hi' t1 t2, s' = { s with heap := h, toks := tk } ∧ Fr (bas s.heap frs) L h m' ∧ News (bas s.heap frs) L h frs' ∧ TI.SameUp frs frs' ∧ TI.Frs outer frs' ∧
    m' (Str.ofString "a") = some (.ref a) ∧ m' (Str.ofString "x") = some (.ref x) ∧ m' (Str.ofString "key") = some (.ref 44) ∧ m' (Str.ofString "lo") = some (.int ((lo' : Nat) : Int) t1) ∧ m' (Str.ofString "hi") = some (.int ((hi' : Nat) : Int) t2) ∧
    0 ≤ lo' ∧ lo' ≤ r ∧ r ≤ hi' ∧ hi' ≤ ls.length ∧ d = hi' - lo') ?_ (ls.length - 0) ⟨_, _, _, frs, 0, ls.length, _, _, rfl, F, N, TI.SameUp.refl _, B.isf, rfl, rfl, rfl, rfl, rfl, Nat.le_refl _, Nat.zero_le _, hrh, Nat.le_refl _, rfl⟩
  clear F N
  rintro d s' ⟨h, tk, m', frs', lo', hi', t1, t2, rfl, F, N, SU, Fs, ma, mx, mk, ml, mh, e1, e2, e3, e4, rfl⟩
  have F' := pins F [(Str.ofString "a", .ref a), (Str.ofString "x", .ref x), (Str.ofString "key", .ref 44), (Str.ofString "lo", .int ((lo' : Nat) : Int) t1), (Str.ofString "hi", .int ((hi' : Nat) : Int) t2)] ⟨ma, mx, mk, ml, mh, trivial⟩
  clear F
  refine wpC_of_any ?_
  k_steps
  · rename_i hlt
    have hlt : lo' < hi' := by omega
    have hm : ((lo' : Int) + (hi' : Int)).fdiv 2 = (((lo' + hi') / 2 : Nat) : Int) := by rw [Int.fdiv_eq_ediv_of_nonneg _ (by decide)]; omega
    refine wpC_execs_any ?_
    k_steps
    rename Fr _ _ _ _ => F
    rename News _ _ _ _ => N
    rw [hm] at F
    dsimp only at F N ⊢
    generalize hmid : (lo' + hi') / 2 = mid at F
    obtain ⟨l, hl⟩ : ∃ l, ls[mid]? = some l := ⟨_, List.getElem?_eq_getElem (by omega)⟩
    obtain ⟨v, hv, t3, rfl⟩ : ∃ v, vs[mid]? = some v ∧ ∃ t, v = .str l t := by
      obtain ⟨v, hv⟩ : ∃ v, vs[mid]? = some v := ⟨_, List.getElem?_eq_getElem (by rw [hvs.length]; omega)⟩
      obtain ⟨l', hl', t, rfl⟩ := hvs.at hv
      rw [hl] at hl'; cases hl'
      exact ⟨_, hv, t, rfl⟩
    have hlk := hok l (List.mem_of_getElem? hl)
    obtain ⟨hc1, hc2⟩ := hcmp mid l (by omega) (by omega) hl
    have ha0 := F.keep a _ habase
    refine wpC_execs_cons (wpC_If (wpC_isTrue_Compare1 (wpC_of_any ?_)))
    k_steps
    refine wpC_Call_Name ?_
    k_steps
    refine wpC_call_K0 (K := hd.heap_39 w.params) rfl (wpC_of_any ?_)
    k_steps
    refine item_litK (vs := vs) ⟨_, ha0, rfl, _, rfl⟩ (by omega) (by omega) (v := .str l t3) (by simpa using hv) ?_
    k_steps
    refine cv_at (news := []) G B.base F N Fs (fun _ h => by cases h) hA (by omega) hh hlk ?_
    intro h4 tk4 frs4 b4 vs4 n4 SU4 Fs4 ea4 F4 N4 hb4 hav4
    have hx4 := F4.keep x _ ((TI.gone_get hxf).trans hx)
    clear F N
    dsimp only [List.nil_append] at N4 hb4 ⊢
    refine lt_lists hus hav4 hc1 hx4 (N4 _ (.head _)).1 (by show A.units + _ < _; omega) ?_
    have N6 : News (bas s.heap frs) L h4 frs4 := fun p hp => N4 p (.tail _ hp)
    clear N4
    rw [hc2]
    by_cases hmr : r ≤ mid
    · rw [decide_eq_true hmr]
      k_steps
      refine wpC_execs_any ?_
      k_steps
      dsimp only
      refine wpC_execs_nil ?_
      rename Fr _ _ _ _ => F
      rename News _ _ _ _ => N
      refine wpC_execs_nil ?_
      exact ⟨mid - lo', by omega, _, _, _, frs4, lo', mid, t1, _, rfl, F, N, SU.trans SU4, Fs4, rfl, rfl, rfl, rfl, rfl, by omega, by omega, by omega, by omega, rfl⟩
    · rw [decide_eq_false hmr]
      k_steps
      refine wpC_execs_any ?_
      k_steps
      dsimp only
      refine wpC_execs_nil ?_
      rename Fr _ _ _ _ => F
      rename News _ _ _ _ => N
      refine wpC_execs_nil ?_
      exact ⟨hi' - (mid + 1), by omega, _, _, _, frs4, mid + 1, hi', _, t2, rfl, F, N, SU.trans SU4, Fs4, rfl, rfl, rfl, rfl, rfl, by omega, by omega, by omega, by omega, rfl⟩
  · rename_i hlt
    have hlr : lo' = r := by omega
    subst hlr
    dsimp only
    refine wpC_execs_nil ?_
    dsimp only
    refine wpC_execs_any ?_
    k_steps
    rename News _ _ _ _ => N
    exact k _ _ _ _ (Kx.of F' SU fun p hp => (N p hp).1)

end Mine
end
section
open PySem PySem.W PyProof.Rows PySem.Calls
set_option Elab.async false
set_option linter.unusedVariables false
set_option maxRecDepth 100000
namespace Mine

set_option maxHeartbeats 8000000 in
theorem ir_spec {w : World} {mg mb : Str → Option Value} {A : PySem.Around} {s : Shared} {R : Result → Shared → Prop} {h₀ : Heap} {outer : List Env} {frs : List (Addr × Obj)}
    {a : Addr} {vs : List Value} {n : Nat} {ls : List Str} {x : Str} {tx : Tok} {lo hi r : Nat} {tl th : Tok}
    (G : Gd w mg mb h₀) (B : Bs h₀ outer frs s.heap) (hA : A.frames = some outer) (hroom : A.depth + 30 < recursionLimit) (hu : A.units + 300 < cLine) (hh : A.handled = none)
    (ha : s.heap.get? a = some (W.listOf vs.toArray n)) (hvs : SV vs ls) (hok : ∀ l ∈ ls, LabOk l) (hx : LabOk x)
    (haf : a ∉ frA frs) (ha0 : h₀.get? a = none)
    (hloh : lo ≤ r) (hrh : r ≤ hi) (hhi : hi ≤ ls.length) (hlen : ls.length ≤ 1000)
    (hcmp : ∀ m l, lo ≤ m → m < hi → ls[m]? = some l → Comp (keyOf x) (keyOf l) ∧ rowLt (keyOf x) (keyOf l) = decide (r ≤ m))
    (k : ∀ h' tk' frs' n', Ky a frs frs' s.heap h' → h'.get? a = some (W.listOf (vs.take r ++ .str x tx :: vs.drop r).toArray n') → R (.ok (.ret .none)) { s with heap := h', toks := tk' }) :
    codeC (model Challenge.rw_ph0088_01.row.prog w) A (.call (.ref 53) ⟨[.ref a, .str x tx, .int (lo : Int) tl, .int (hi : Int) th], [(Str.ofString "key", .ref 44)]⟩) R s := by
  have hb0 : ∀ b o, h₀.get? b = some o → (TI.gone (bas s.heap frs) [a]).get? b = some o := fun b o e =>
    (TI.gone_get fun hm => by rw [List.mem_singleton.mp hm, ha0] at e; cases e).trans (B.base b o e)
  have X := (G.keeps hb0).X
  have T := (G.keeps hb0).T
  revert X; k_fill; intro X
  refine call_C (K := hd.heap_39 w.params) (binds := [(Str.ofString "a", .ref a), (Str.ofString "x", .str x tx), (Str.ofString "lo", .int (lo : Int) tl), (Str.ofString "hi", .int (hi : Int) th), (Str.ofString "key", .ref 44)]) B G.X G.T.nolimit rfl rfl (by omega) ?bind rfl (fun L h₁ F0 N0 => ?_)
  case bind => exact binds_K (G.keeps B.stay).X rfl rfl rfl rfl rfl
  have habase := (TI.gone_get haf).trans ha
  have haL := Fr.off F0 habase
  have F : Fr (TI.gone (bas s.heap frs) [a]) L h₁ _ := ⟨F0.ns, fun b o e => F0.keep b o (TI.gone_some e).2, by rw [bas_size]; exact F0.above⟩
  have N : News (TI.gone (bas s.heap frs) [a]) L h₁ ((a, W.listOf vs.toArray n) :: frs) := fun p hp => by
    rcases List.mem_cons.mp hp with rfl | hp
    · exact ⟨F0.keep _ _ habase, haL, TI.gone_none (List.mem_singleton.mpr rfl)⟩
    · have q := N0 p hp
      refine ⟨q.1, q.2.1, ?_⟩
      cases e : (TI.gone (bas s.heap frs) [a]).get? p.1 with
      | none => rfl
      | some o => have := (TI.gone_some e).2; rw [q.2.2] at this; cases this
  clear F0 N0
  refine wpC_execs_cons (wpC_If (wpC_of_any ?_))
  k_steps
  refine wpC_execs_cons (wpC_Assign_Name (wpC_Call_Name ?_))
  k_steps
  refine wpC_call_K1 (K := hd.heap_39 w.params) rfl (wpC_args_cons (wpC_of_any ?_))
  k_steps
  refine wpC_args_cons (wpC_Call_Name ?_)
  k_steps
  refine wpC_call_K0 (K := hd.heap_39 w.params) rfl (wpC_of_any ?_)
  k_steps
  refine cv_at (news := [(a, W.listOf vs.toArray n)]) G hb0 F N B.isf (fun p hp => by rw [List.mem_singleton.mp hp]; exact haf) hA (by omega) hh hx ?_
  intro h4 tk4 frs4 b4 vs4 n4 SU4 Fs4 ea4 F4 N4 hb4 hav4
  clear F N
  dsimp only [List.cons_append, List.nil_append] at N4 hb4 ⊢
  have haf4 : a ∉ frA frs4 := by rw [ea4]; exact haf
  have hbf4 : b4 ∉ frA frs4 := fun hm => by
    obtain ⟨p, hp, e⟩ := List.mem_map.mp hm
    exact hb4 p (.tail _ hp) e
  refine wpC_of_any ?_
  k_steps
  refine at_C (h₀ := h₀) (news := [(b4, W.listOf vs4.toArray n4), (a, W.listOf vs.toArray n)]) (fun v _ => ∃ t, v = .int (r : Int) t) hb0 F4 N4 Fs4 (fun p hp => ?_) hA (fun oL B' hA' => ?_) ?_
  · rcases List.mem_cons.mp hp with rfl | hp
    · exact hbf4
    · rw [List.mem_singleton.mp hp]; exact haf4
  · refine br_spec G B' hA' (deeper_room (by omega)) (by show A.units + _ + 100 < _; omega) hh (N4 _ (.tail _ (.head _))).1 hvs (N4 _ (.head _)).1 hav4 hok ?_ ?_ hloh hrh hhi hlen hcmp ?_
    · exact fun hm => (List.mem_cons.mp hm).elim haL haf4
    · exact fun hm => (List.mem_cons.mp hm).elim (N4 _ (.head _)).2.1 hbf4
    · intro h' tk' frs' t K
      exact ⟨_, h', tk', frs', rfl, rfl, K, t, rfl⟩
  rintro v h5 tk5 frs5 SU5 Fs5 ea5 F5 N5 ⟨t5, rfl⟩
  clear F4 N4
  dsimp only [List.cons_append, List.nil_append] at N5 ⊢
  have N6 : News (TI.gone (bas s.heap frs) [a]) L h5 ((a, W.listOf vs.toArray n) :: frs5) := fun p hp => N5 p (.tail _ hp)
  clear N5
  k_steps
  dsimp only
  refine wpC_execs_nil ?_
  dsimp only
  refine wpC_execs_any ?_
  k_steps
  rename Fr _ _ _ _ => F
  rename News _ _ _ _ => N
  have hin : kl_ins vs.toArray.toList (r : Int) (.str x tx) = vs.take r ++ .str x tx :: vs.drop r := by
    unfold kl_ins
    have h1 : r ≤ vs.length := by rw [hvs.length]; omega
    rw [if_neg (by omega)]
    simp [Nat.min_eq_left h1]
  refine kl_insert F N (l := vs.take r ++ .str x tx :: vs.drop r) (by rw [Builtin.List.listFitsIndex]; simp; omega) hin (.head fun p hp e => ?_) (by rw [sizeLine_eq]; simp [hvs.length]; omega) ?_
  · have : a ∈ frA frs5 := List.mem_map.mpr ⟨p, hp, e⟩
    rw [ea5, ea4] at this
    exact haf this
  intro h6 F6 N7
  k_steps
  refine wpC_execs_nil ?_
  refine k h6 _ frs5 _ ⟨SU4.trans SU5, fun p hp => (N7 p (.tail _ hp)).1, fun b o h1 h2 e => ?_⟩ (N7 _ (.head _)).1
  exact F6.keep b o ((TI.gone_get fun hm => h2 (List.mem_singleton.mp hm)).trans ((TI.gone_get h1).trans e))


set_option maxHeartbeats 8000000 in
theorem il_spec {w : World} {mg mb : Str → Option Value} {A : PySem.Around} {s : Shared} {R : Result → Shared → Prop} {h₀ : Heap} {outer : List Env} {frs : List (Addr × Obj)}
    {a : Addr} {vs : List Value} {n : Nat} {ls : List Str} {x : Str} {tx : Tok} {lo hi r : Nat} {tl th : Tok}
    (G : Gd w mg mb h₀) (B : Bs h₀ outer frs s.heap) (hA : A.frames = some outer) (hroom : A.depth + 30 < recursionLimit) (hu : A.units + 300 < cLine) (hh : A.handled = none)
    (ha : s.heap.get? a = some (W.listOf vs.toArray n)) (hvs : SV vs ls) (hok : ∀ l ∈ ls, LabOk l) (hx : LabOk x)
    (haf : a ∉ frA frs) (ha0 : h₀.get? a = none)
    (hloh : lo ≤ r) (hrh : r ≤ hi) (hhi : hi ≤ ls.length) (hlen : ls.length ≤ 1000)
    (hcmp : ∀ m l, lo ≤ m → m < hi → ls[m]? = some l → Comp (keyOf l) (keyOf x) ∧ rowLt (keyOf l) (keyOf x) = decide (m < r))
    (k : ∀ h' tk' frs' n', Ky a frs frs' s.heap h' → h'.get? a = some (W.listOf (vs.take r ++ .str x tx :: vs.drop r).toArray n') → R (.ok (.ret .none)) { s with heap := h', toks := tk' }) :
    codeC (model Challenge.rw_ph0088_01.row.prog w) A (.call (.ref 71) ⟨[.ref a, .str x tx, .int (lo : Int) tl, .int (hi : Int) th], [(Str.ofString "key", .ref 44)]⟩) R s := by
  have hb0 : ∀ b o, h₀.get? b = some o → (TI.gone (bas s.heap frs) [a]).get? b = some o := fun b o e =>
    (TI.gone_get fun hm => by rw [List.mem_singleton.mp hm, ha0] at e; cases e).trans (B.base b o e)
  have X := (G.keeps hb0).X
  have T := (G.keeps hb0).T
  revert X; k_fill; intro X
  refine call_C (K := hd.heap_39 w.params) (binds := [(Str.ofString "a", .ref a), (Str.ofString "x", .str x tx), (Str.ofString "lo", .int (lo : Int) tl), (Str.ofString "hi", .int (hi : Int) th), (Str.ofString "key", .ref 44)]) B G.X G.T.nolimit rfl rfl (by omega) ?bind rfl (fun L h₁ F0 N0 => ?_)
  case bind => exact binds_K (G.keeps B.stay).X rfl rfl rfl rfl rfl
  have habase := (TI.gone_get haf).trans ha
  have haL := Fr.off F0 habase
  have F : Fr (TI.gone (bas s.heap frs) [a]) L h₁ _ := ⟨F0.ns, fun b o e => F0.keep b o (TI.gone_some e).2, by rw [bas_size]; exact F0.above⟩
  have N : News (TI.gone (bas s.heap frs) [a]) L h₁ ((a, W.listOf vs.toArray n) :: frs) := fun p hp => by
    rcases List.mem_cons.mp hp with rfl | hp
    · exact ⟨F0.keep _ _ habase, haL, TI.gone_none (List.mem_singleton.mpr rfl)⟩
    · have q := N0 p hp
      refine ⟨q.1, q.2.1, ?_⟩
      cases e : (TI.gone (bas s.heap frs) [a]).get? p.1 with
      | none => rfl
      | some o => have := (TI.gone_some e).2; rw [q.2.2] at this; cases this
  clear F0 N0
  refine wpC_execs_cons (wpC_If (wpC_of_any ?_))
  k_steps
  refine wpC_execs_cons (wpC_Assign_Name (wpC_Call_Name ?_))
  k_steps
  refine wpC_call_K1 (K := hd.heap_39 w.params) rfl (wpC_args_cons (wpC_of_any ?_))
  k_steps
  refine wpC_args_cons (wpC_Call_Name ?_)
  k_steps
  refine wpC_call_K0 (K := hd.heap_39 w.params) rfl (wpC_of_any ?_)
  k_steps
  refine cv_at (news := [(a, W.listOf vs.toArray n)]) G hb0 F N B.isf (fun p hp => by rw [List.mem_singleton.mp hp]; exact haf) hA (by omega) hh hx ?_
  intro h4 tk4 frs4 b4 vs4 n4 SU4 Fs4 ea4 F4 N4 hb4 hav4
  clear F N
  dsimp only [List.cons_append, List.nil_append] at N4 hb4 ⊢
  have haf4 : a ∉ frA frs4 := by rw [ea4]; exact haf
  have hbf4 : b4 ∉ frA frs4 := fun hm => by
    obtain ⟨p, hp, e⟩ := List.mem_map.mp hm
    exact hb4 p (.tail _ hp) e
  refine wpC_of_any ?_
  k_steps
  refine at_C (h₀ := h₀) (news := [(b4, W.listOf vs4.toArray n4), (a, W.listOf vs.toArray n)]) (fun v _ => ∃ t, v = .int (r : Int) t) hb0 F4 N4 Fs4 (fun p hp => ?_) hA (fun oL B' hA' => ?_) ?_
  · rcases List.mem_cons.mp hp with rfl | hp
    · exact hbf4
    · rw [List.mem_singleton.mp hp]; exact haf4
  · refine bl_spec G B' hA' (deeper_room (by omega)) (by show A.units + _ + 100 < _; omega) hh (N4 _ (.tail _ (.head _))).1 hvs (N4 _ (.head _)).1 hav4 hok ?_ ?_ hloh hrh hhi hlen hcmp ?_
    · exact fun hm => (List.mem_cons.mp hm).elim haL haf4
    · exact fun hm => (List.mem_cons.mp hm).elim (N4 _ (.head _)).2.1 hbf4
    · intro h' tk' frs' t K
      exact ⟨_, h', tk', frs', rfl, rfl, K, t, rfl⟩
  rintro v h5 tk5 frs5 SU5 Fs5 ea5 F5 N5 ⟨t5, rfl⟩
  clear F4 N4
  dsimp only [List.cons_append, List.nil_append] at N5 ⊢
  have N6 : News (TI.gone (bas s.heap frs) [a]) L h5 ((a, W.listOf vs.toArray n) :: frs5) := fun p hp => N5 p (.tail _ hp)
  clear N5
  k_steps
  dsimp only
  refine wpC_execs_nil ?_
  dsimp only
  refine wpC_execs_any ?_
  k_steps
  rename Fr _ _ _ _ => F
  rename News _ _ _ _ => N
  have hin : kl_ins vs.toArray.toList (r : Int) (.str x tx) = vs.take r ++ .str x tx :: vs.drop r := by
    unfold kl_ins
    have h1 : r ≤ vs.length := by rw [hvs.length]; omega
    rw [if_neg (by omega)]
    simp [Nat.min_eq_left h1]
  refine kl_insert F N (l := vs.take r ++ .str x tx :: vs.drop r) (by rw [Builtin.List.listFitsIndex]; simp; omega) hin (.head fun p hp e => ?_) (by rw [sizeLine_eq]; simp [hvs.length]; omega) ?_
  · have : a ∈ frA frs5 := List.mem_map.mpr ⟨p, hp, e⟩
    rw [ea5, ea4] at this
    exact haf this
  intro h6 F6 N7
  k_steps
  refine wpC_execs_nil ?_
  refine k h6 _ frs5 _ ⟨SU4.trans SU5, fun p hp => (N7 p (.tail _ hp)).1, fun b o h1 h2 e => ?_⟩ (N7 _ (.head _)).1
  exact F6.keep b o ((TI.gone_get fun hm => h2 (List.mem_singleton.mp hm)).trans ((TI.gone_get h1).trans e))

end Mine
end
section
open PySem PySem.W PyProof.Rows PySem.Calls
set_option Elab.async false
set_option linter.unusedVariables false
set_option maxRecDepth 100000
namespace Mine
/-- a turn's end; own: what the loop keeps -/
def LEnd (h₀ : Heap) (L : Addr) (J : (Str → Option Value) → List (Addr × Obj) → Prop) (own : List (Addr × Obj)) (s₁ s₂ : Shared) : Prop :=
  ∃ h' tk m' news', s₂ = { s₁ with heap := h', toks := tk } ∧ Fr h₀ L h' m' ∧ News h₀ L h' (own ++ news') ∧ J m' news'
def LPost (h₀ : Heap) (L : Addr) (J : (Str → Option Value) → List (Addr × Obj) → Prop) (own : List (Addr × Obj)) (s₁ : Shared) (R : Result → Shared → Prop) (f : Flow) (s₂ : Shared) : Prop :=
  match f with
  | .ret v => R (.ok (.ret v)) s₂
  | .brk => R (.ok .next) s₂
  | _ => LEnd h₀ L J own s₁ s₂
section
variable {prog : Program} {w : World} {A : PySem.Around} {E : Value → Shared → Prop} {s : Shared} {env : Env} {h₀ : Heap} {x : Str} {px : Pos} {body : List Stmt} {R : Result → Shared → Prop}
theorem loopC_list {l : Addr} {vs : List Value} {m₀ : Str → Option Value} {news : List (Addr × Obj)} (J : Nat → (Str → Option Value) → List (Addr × Obj) → Prop)
    (hh : A.handled = none) (hl : s.heap.IsList l vs.toArray) (hlL : l ≠ env.locals) (hl0 : h₀.get? l = none) (F : Fr h₀ env.locals s.heap m₀) (N : News h₀ env.locals s.heap news) (hj : J 0 m₀ news)
    (turn : ∀ i v m₁ news₁ h tk own, vs[i]? = some v → (∀ p ∈ own, p.1 = l ∨ p.1 = s.heap.objs.size) → (∃ o, (s.heap.objs.size, o) ∈ own) → J i m₁ news₁ → Fr h₀ env.locals h (fun y => if y = x then some v else m₁ y) → News h₀ env.locals h (own ++ news₁) →
      wpC (model prog w) A (execs body env) (LPost h₀ env.locals (J (i + 1)) own { s with heap := h, toks := tk } R) NoE { s with heap := h, toks := tk })
    (hna : ∀ i m' news', J i m' news' → ∀ p ∈ news', p.1 ≠ s.heap.objs.size)
    (done : ∀ m₁ news₁ h tk, J vs.length m₁ news₁ → Fr h₀ env.locals h m₁ → News h₀ env.locals h news₁ → R (.ok .next) { s with heap := h, toks := tk })
    (hx : env.kindOf x = some .local := by rfl)
    (hp : (env.scope.kind == .class || (env.scope.kind == .module && env.locals != env.globals)) = false := by rfl) :
    wpAny (model prog w) A (pyIter (.ref l)) (fun it s₂ => codeC (model prog w) A (.forLoop (.Name x px) it body [] env) R s₂) E s := by
  obtain ⟨ol, hol, _⟩ := id hl
  have hlt : l < s.heap.objs.size := Heap.lt_size hol
  have hLI : env.locals ≠ s.heap.objs.size := Nat.ne_of_lt F.ns.lt
  have hI0 : h₀.get? s.heap.objs.size = none := Heap.get?_none_of_le (Nat.le_trans F.above (Nat.le_of_lt F.ns.lt))
  refine wpAny_pyIter_list hl ?_
  have W := Walks.list (prog := prog) (w := w) hh s.heap.objs.size l (Nat.ne_of_lt hlt) vs.toArray
  rw [List.size_toArray] at W
  refine codeC_forLoop (fun k s' => ∃ h' tk m' news' i, s' = { s with heap := h', toks := tk } ∧ (h'.IsListIter s.heap.objs.size l i ∧ h'.IsList l vs.toArray) ∧ Fr h₀ env.locals h' m' ∧ News h₀ env.locals h' news' ∧ J i m' news' ∧ i ≤ vs.length ∧ k = vs.length + 1 - i) ?_ (vs.length + 1)
    ⟨_, _, m₀, news, 0, rfl, ⟨⟨_, Heap.get?_push_size _ rfl, rfl, rfl⟩, hl.at fun o e => Heap.get?_push_of_some _ e⟩, F.push _, (fun p hp => ⟨Heap.get?_push_of_some _ (N p hp).1, (N p hp).2⟩), hj, Nat.zero_le _, rfl⟩
  rintro k s' ⟨h', tk, m', news', i, rfl, hst, F', N', hJ, hi, rfl⟩
  have hnw := hna i m' news' hJ
  have next : ∀ h₁ : Heap, (∀ b o, b ∉ [s.heap.objs.size] → h'.get? b = some o → h₁.get? b = some o) → Fr h₀ env.locals h₁ m' ∧ News h₀ env.locals h₁ news' := fun h₁ hk₁ =>
    ⟨⟨F'.ns.at' fun o e => hk₁ _ o (fun q => hLI (List.mem_singleton.mp q)) e, fun b o e => hk₁ b o (fun q => by rw [List.mem_singleton.mp q, hI0] at e; cases e) (F'.keep b o e), F'.above⟩,
     fun p hp => ⟨hk₁ _ _ (fun q => hnw p hp (List.mem_singleton.mp q)) (N' p hp).1, (N' p hp).2⟩⟩
  by_cases hlt' : i < vs.length
  · refine W.item i _ _ _ hlt' hst fun v h₁ tk₁ hP hst₁ hk₁ => ?_
    obtain ⟨F₁, N₁⟩ := next h₁ hk₁
    refine wpAny_assign_Name (wpAny_storeName_local hx F₁.ns (fun h₂ hn₂ hs₂ => ?_) hp)
    have F₂ := F₁.set hn₂ hs₂
    have N₂ := N₁.set hs₂
    have hst₂ := W.frame _ _ h₂ hst₁ fun b hb o e => (hs₂.2 b fun q => by
      rcases List.mem_cons.mp hb with r | r
      · exact hLI (q ▸ r)
      · exact hlL ((List.mem_singleton.mp r).symm.trans q)).trans e
    have hP' : vs[i]? = some v := by simpa using hP
    obtain ⟨oI, hoI, _⟩ := id hst₂.1
    obtain ⟨ol2, hol2, _⟩ := id hst₂.2
    have own3 : News h₀ env.locals h₂ ([(s.heap.objs.size, oI), (l, ol2)] ++ news') := by
      intro p hp
      rcases List.mem_cons.mp hp with rfl | hp
      · exact ⟨hoI, hLI.symm, hI0⟩
      · rcases List.mem_cons.mp hp with rfl | hp
        · exact ⟨hol2, hlL, hl0⟩
        · exact N₂ p hp
    have fin : ∀ tkz s₃, LEnd h₀ env.locals (J (i + 1)) [(s.heap.objs.size, oI), (l, ol2)] { s with heap := h₂, toks := tkz } s₃ → ∃ m, m < vs.length + 1 - i ∧ ∃ h' tk m' news' i, s₃ = { s with heap := h', toks := tk } ∧ (h'.IsListIter s.heap.objs.size l i ∧ h'.IsList l vs.toArray) ∧ Fr h₀ env.locals h' m' ∧ News h₀ env.locals h' news' ∧ J i m' news' ∧ i ≤ vs.length ∧ m = vs.length + 1 - i := by
      rintro tkz s₃ ⟨h₃', tk₃, m₂, news₂, rfl, F₃, N₃, hJ₃⟩
      refine ⟨vs.length + 1 - (i + 1), by omega, h₃', tk₃, m₂, news₂, i + 1, rfl, ⟨hst₂.1.at fun o e => ?_, hst₂.2.at fun o e => ?_⟩, F₃, fun p hp => N₃ p (List.mem_append_right _ hp), hJ₃, hlt', rfl⟩
      · rw [hoI] at e; cases e; exact (N₃ _ (.head _)).1
      · rw [hol2] at e; cases e; exact (N₃ _ (.tail _ (.head _))).1
    refine wpC_mono (turn i v m' news' h₂ _ [(s.heap.objs.size, oI), (l, ol2)] hP' (fun p hp => ?_) ⟨oI, .head _⟩ hJ F₂ own3) (fun f s₃ h₃ => ?_) fun _ _ e => e
    · rcases List.mem_cons.mp hp with rfl | hp
      · exact .inr rfl
      · rw [List.mem_singleton.mp hp]; exact .inl rfl
    · cases f with
      | ret v => exact h₃
      | brk => exact h₃
      | cont => exact fin _ s₃ h₃
      | next => exact fin _ s₃ h₃
  · have hin : i = vs.length := by omega
    subst hin
    refine W.done _ _ _ hst fun h₁ tk₁ hk₁ => ?_
    obtain ⟨F₁, N₁⟩ := next h₁ hk₁
    exact done m' news' h₁ tk₁ hJ F₁ N₁

theorem loopC_range {r : Addr} {n : Nat} {b₀ : Int} {t₀ u₀ v₀ : Tok} {m₀ : Str → Option Value} {news : List (Addr × Obj)} (J : Nat → (Str → Option Value) → List (Addr × Obj) → Prop)
    (hh : A.handled = none) (hr : IsRange s.heap r 0 b₀ 1 t₀ u₀ v₀) (hb : b₀ = (n : Int)) (hnz : n ≤ 100000) (F : Fr h₀ env.locals s.heap m₀) (N : News h₀ env.locals s.heap news) (hj : J 0 m₀ news)
    (turn : ∀ i t m₁ news₁ h tk own, i < n → (∀ p ∈ own, p.1 = s.heap.objs.size) → J i m₁ news₁ → Fr h₀ env.locals h (fun y => if y = x then some (.int (i : Int) t) else m₁ y) → News h₀ env.locals h (own ++ news₁) →
      wpC (model prog w) A (execs body env) (LPost h₀ env.locals (J (i + 1)) own { s with heap := h, toks := tk } R) NoE { s with heap := h, toks := tk })
    (hna : ∀ i m' news', J i m' news' → ∀ p ∈ news', p.1 ≠ s.heap.objs.size)
    (done : ∀ m₁ news₁ h tk, J n m₁ news₁ → Fr h₀ env.locals h m₁ → News h₀ env.locals h news₁ → R (.ok .next) { s with heap := h, toks := tk })
    (hx : env.kindOf x = some .local := by rfl)
    (hp : (env.scope.kind == .class || (env.scope.kind == .module && env.locals != env.globals)) = false := by rfl) :
    wpAny (model prog w) A (pyIter (.ref r)) (fun it s₂ => codeC (model prog w) A (.forLoop (.Name x px) it body [] env) R s₂) E s := by
  subst hb
  have hsmall : Builtin.Range.small 0 (n : Int) 1 = true := by
    simp [Builtin.Range.small, Builtin.Range.rangeFitsLong, Builtin.Range.rangeSize]; omega
  have hn : Builtin.Range.rangeSize 0 (n : Int) 1 = (n : Int) := by simp [Builtin.Range.rangeSize]; omega
  have hLI : env.locals ≠ s.heap.objs.size := Nat.ne_of_lt F.ns.lt
  have hI0 : h₀.get? s.heap.objs.size = none := Heap.get?_none_of_le (Nat.le_trans F.above (Nat.le_of_lt F.ns.lt))
  refine wpAny_pyIter_range hr hsmall ?_
  have W := Walks.range (prog := prog) (w := w) hh s.heap.objs.size 0 1 n
  refine codeC_forLoop (fun k s' => ∃ h' tk m' news' i, s' = { s with heap := h', toks := tk } ∧ IsRangeIter h' s.heap.objs.size (0 + (i : Nat) * 1) ((n : Int) - (i : Nat)) 1 ∧ Fr h₀ env.locals h' m' ∧ News h₀ env.locals h' news' ∧ J i m' news' ∧ i ≤ n ∧ k = n + 1 - i) ?_ (n + 1)
    ⟨_, _, m₀, news, 0, rfl, by show IsRangeIter _ _ _ _ _; rw [hn]; simpa using Heap.get?_push_size _ rfl, F.push _, (fun p hp => ⟨Heap.get?_push_of_some _ (N p hp).1, (N p hp).2⟩), hj, Nat.zero_le _, rfl⟩
  rintro k s' ⟨h', tk, m', news', i, rfl, hst, F', N', hJ, hi, rfl⟩
  have hnw := hna i m' news' hJ
  have next : ∀ h₁ : Heap, (∀ b o, b ∉ [s.heap.objs.size] → h'.get? b = some o → h₁.get? b = some o) → Fr h₀ env.locals h₁ m' ∧ News h₀ env.locals h₁ news' := fun h₁ hk₁ =>
    ⟨⟨F'.ns.at' fun o e => hk₁ _ o (fun q => hLI (List.mem_singleton.mp q)) e, fun b o e => hk₁ b o (fun q => by rw [List.mem_singleton.mp q, hI0] at e; cases e) (F'.keep b o e), F'.above⟩,
     fun p hp => ⟨hk₁ _ _ (fun q => hnw p hp (List.mem_singleton.mp q)) (N' p hp).1, (N' p hp).2⟩⟩
  by_cases hlt' : i < n
  · refine W.item i _ _ _ hlt' hst fun v h₁ tk₁ hP hst₁ hk₁ => ?_
    obtain ⟨t, rfl⟩ := hP
    obtain ⟨F₁, N₁⟩ := next h₁ hk₁
    refine wpAny_assign_Name (wpAny_storeName_local hx F₁.ns (fun h₂ hn₂ hs₂ => ?_) hp)
    have F₂ := F₁.set hn₂ hs₂
    have N₂ := N₁.set hs₂
    have hst₂ := W.frame _ _ h₂ hst₁ fun b hb o e => (hs₂.2 b fun q => hLI (by rw [← q, List.mem_singleton.mp hb])).trans e
    obtain ⟨oI, hoI⟩ : ∃ oI, h₂.get? s.heap.objs.size = some oI := ⟨_, hst₂⟩
    have own3 : News h₀ env.locals h₂ ([(s.heap.objs.size, oI)] ++ news') := by
      intro p hp
      rcases List.mem_cons.mp hp with rfl | hp
      · exact ⟨hoI, hLI.symm, hI0⟩
      · exact N₂ p hp
    have e1 : (0 : Int) + (i : Int) * 1 = (i : Int) := by omega
    rw [e1] at F₂
    have fin : ∀ tkz s₃, LEnd h₀ env.locals (J (i + 1)) [(s.heap.objs.size, oI)] { s with heap := h₂, toks := tkz } s₃ → ∃ m, m < n + 1 - i ∧ ∃ h' tk m' news' i, s₃ = { s with heap := h', toks := tk } ∧ IsRangeIter h' s.heap.objs.size (0 + (i : Nat) * 1) ((n : Int) - (i : Nat)) 1 ∧ Fr h₀ env.locals h' m' ∧ News h₀ env.locals h' news' ∧ J i m' news' ∧ i ≤ n ∧ m = n + 1 - i := by
      rintro tkz s₃ ⟨h₃', tk₃, m₂, news₂, rfl, F₃, N₃, hJ₃⟩
      exact ⟨n + 1 - (i + 1), by omega, h₃', tk₃, m₂, news₂, i + 1, rfl, (N₃ _ (.head _)).1.trans (hoI.symm.trans hst₂), F₃, fun p hp => N₃ p (List.mem_append_right _ hp), hJ₃, hlt', rfl⟩
    refine wpC_mono (turn i t m' news' h₂ _ [(s.heap.objs.size, oI)] hlt' (fun p hp => by rw [List.mem_singleton.mp hp]) hJ F₂ own3) (fun f s₃ h₃ => ?_) fun _ _ e => e
    cases f with
    | ret v => exact h₃
    | brk => exact h₃
    | cont => exact fin _ s₃ h₃
    | next => exact fin _ s₃ h₃
  · have hin : i = n := by omega
    subst hin
    refine W.done _ _ _ hst fun h₁ tk₁ hk₁ => ?_
    obtain ⟨F₁, N₁⟩ := next h₁ hk₁
    exact done m' news' h₁ tk₁ hJ F₁ N₁
end
end Mine
end
section
open PySem PySem.W PyProof.Rows PySem.Calls
set_option Elab.async false
set_option linter.unusedVariables false
set_option maxRecDepth 100000
namespace Mine
section
variable {M : Model} {A : PySem.Around} {E : Value → Shared → Prop} {s : Shared} {env : Env}
theorem wpC_isTrue_BoolOp {op : BoolOp} {values : List PySem.Expr} {pos : Pos} {whole : Sem Value} {Q : Bool → Shared → Prop} (h : wpC M A (allTrue op values env) Q E s) :
    wpC M A (isTrue (.BoolOp op values pos) env whole) Q E s := by rw [arm_isTrue_BoolOp]; exact h
theorem wpC_allTrue_And_cons {x : PySem.Expr} {rest : List PySem.Expr} {Q : Bool → Shared → Prop}
    (h : wpC M A (isTrue x env (eval x env)) (fun b s₁ => if b then wpC M A (allTrue .And rest env) Q E s₁ else Q false s₁) E s) : wpC M A (allTrue .And (x :: rest) env) Q E s := by
  show wpC M A (do match BoolOp.And, ← isTrue x env (eval x env) with | .And, false => pure false | .Or, true => pure true | _, _ => allTrue .And rest env) Q E s
  refine wpC_bind (wpC_mono h (fun b s₁ h₁ => ?_) fun _ _ x => x)
  cases b
  · exact wpC_pure h₁
  · exact h₁
theorem wpC_allTrue_Or_cons {x : PySem.Expr} {rest : List PySem.Expr} {Q : Bool → Shared → Prop}
    (h : wpC M A (isTrue x env (eval x env)) (fun b s₁ => if b then Q true s₁ else wpC M A (allTrue .Or rest env) Q E s₁) E s) : wpC M A (allTrue .Or (x :: rest) env) Q E s := by
  show wpC M A (do match BoolOp.Or, ← isTrue x env (eval x env) with | .And, false => pure false | .Or, true => pure true | _, _ => allTrue .Or rest env) Q E s
  refine wpC_bind (wpC_mono h (fun b s₁ h₁ => ?_) fun _ _ x => x)
  cases b
  · exact h₁
  · exact wpC_pure h₁
theorem wpC_isTrue_Call {f : PySem.Expr} {args : List PySem.Expr} {kws : List Keyword} {pos : Pos} {whole : Sem Value} {Q : Bool → Shared → Prop} (h : wpC M A whole (fun v s₁ => wpAny M A (truthy v) Q E s₁) E s) :
    wpC M A (isTrue (.Call f args kws pos) env whole) Q E s := by
  show wpC M A (do let v ← whole; standAt pos; holding [v] (truthy v)) Q E s
  exact wpC_bind (wpC_mono h (fun v s₁ h₁ => wpC_standAt (wpC_holding (wpC_of_any h₁))) fun _ _ x => x)
end
end Mine
end
section
open PySem PySem.W PyProof.Rows PySem.Calls
set_option Elab.async false
set_option linter.unusedVariables false
set_option maxRecDepth 100000
namespace Mine

theorem idx0 {p : Str} {c : Nat} (hc : p.cps[0]? = some c) : (seqIndex? 0 p.length).bind (p.cps[·]?) = some c := by
  have h : 0 < p.length := (Array.getElem?_eq_some_iff.mp hc).1
  have e : seqIndex? 0 p.length = some 0 := by simp [seqIndex?, h]
  rw [e]; exact hc
def figOf (p : Str) : Bool := !(Builtin.Str.occurrences (Str.ofString "0123456789") ⟨#[p.cps.getD 0 0]⟩ 0 (Str.ofString "0123456789").length 1).isEmpty
set_option maxHeartbeats 8000000 in
theorem fig_spec {w : World} {mg mb : Str → Option Value} {A : PySem.Around} {s : Shared} {R : Result → Shared → Prop} {h₀ : Heap} {outer : List Env} {frs : List (Addr × Obj)}
    {p : Str} {tp : Tok}
    (G : Gd w mg mb h₀) (B : Bs h₀ outer frs s.heap) (hroom : A.depth + 20 < recursionLimit) (hc : p.cps.size ≠ 0)
    (k : ∀ h' tk' frs', Kx frs frs' s.heap h' → R (.ok (.ret (.bool (figOf p)))) { s with heap := h', toks := tk' }) :
    codeC (model Challenge.rw_ph0088_01.row.prog w) A (.call (.ref 94) ⟨[.str p tp], []⟩) R s := by
  have X := (G.keeps B.base).X
  have T := (G.keeps B.base).T
  revert X; k_fill; intro X
  refine call_C (K := hd.heap_39 w.params) (binds := [(Str.ofString "part", .str p tp)]) B G.X G.T.nolimit rfl rfl (by omega) (BindsTo.of_eq rfl) rfl (fun L h₁ F N => ?_)
  refine wpC_execs_any ?_
  k_steps
  have hc0 : p.cps[0]? = some (p.cps.getD 0 0) := by
    cases e : p.cps[0]? with
    | none => exact absurd (Array.getElem?_eq_none_iff.mp e) (by omega)
    | some c => rw [Array.getD_eq_getD_getElem?, e]; rfl
  refine tail_any (typeIs_str _ _ _) PySem.F.slot_str_getitem.lookup (P.getItem_str (c := p.cps.getD 0 0) (by decide) ?_ ?_) (by with_unfolding_all rfl)
  · exact idx0 hc0
  k_steps
  exact k _ _ _ (Kx.of F (TI.SameUp.refl _) fun p hp => (N p hp).1)
theorem fig_at {w : World} {mg mb : Str → Option Value} {A : PySem.Around} {E : Value → Shared → Prop} {s : Shared} {h₀ hb : Heap} {outer : List Env} {frs news : List (Addr × Obj)} {L g : Addr} {m : Str → Option Value} {name : Str} {scope : Scope} {cd : Value}
    {p : Str} {tp : Tok} {Q : Value → Shared → Prop}
    (G : Gd w mg mb h₀) (hb0 : ∀ b o, h₀.get? b = some o → hb.get? b = some o) (F : Fr hb L s.heap m) (N : News hb L s.heap (news ++ frs)) (Fs : TI.Frs outer frs) (hap : ∀ p ∈ news, p.1 ∉ frA frs) (hA : A.frames = some outer)
    (hroom : A.depth + 21 < recursionLimit) (hc : p.cps.size ≠ 0)
    (k : ∀ h' tk' frs', TI.SameUp frs frs' → TI.Frs outer frs' → frA frs' = frA frs → Fr hb L h' m → News hb L h' (news ++ frs') → Q (.bool (figOf p)) { s with heap := h', toks := tk' })
    (hk : scope.kind = .function := by rfl) :
    wpC (model Challenge.rw_ph0088_01.row.prog w) (A.deeper (envOf name scope L g cd)) (call (.ref 94) [.str p tp]) Q E s := by
  refine at_C (h₀ := h₀) (fun v h' => v = .bool (figOf p)) hb0 F N Fs hap hA (fun oL B' hA' => ?_) ?_ hk
  · refine fig_spec G B' (deeper_room hroom) hc ?_
    intro h' tk' frs' K
    exact ⟨_, h', tk', frs', rfl, rfl, K, rfl⟩
  · rintro v h' tk' frs' SU Fs' ea F' N' rfl
    exact k h' tk' frs' SU Fs' ea F' N'
end Mine
end
section
open PySem PySem.W PyProof.Rows PySem.Calls
set_option Elab.async false
set_option linter.unusedVariables false
set_option maxRecDepth 100000
namespace Mine

def gaps : List Str := [Str.ofString "", Str.ofString ".", Str.ofString "-", Str.ofString "_", Str.ofString "+"]
def partAt (ps : List Str) (k : Nat) : Str := ps.getD k Str.empty
def gapAt (ps : List Str) (st k : Nat) : Str :=
  if gaps.getD ((st + k) % 5) Str.empty = Str.ofString "" ∧ figOf (partAt ps k) = figOf (partAt ps (k - 1)) then Str.ofString "." else gaps.getD ((st + k) % 5) Str.empty
def zerosAt (st k : Nat) : Str := Txt.mul (Str.ofString "0") (((st + k) % 3 : Nat) : Int)
def spellTo (ps : List Str) (st : Nat) : Nat → Str
  | 0 => Str.ofString ""
  | k + 1 => (if figOf (partAt ps k) then (if k = 0 then spellTo ps st k else spellTo ps st k ++ gapAt ps st k) ++ zerosAt st k else (if k = 0 then spellTo ps st k else spellTo ps st k ++ gapAt ps st k)) ++ partAt ps k

theorem mod3 (n : Nat) : n % 3 = 0 ∨ n % 3 = 1 ∨ n % 3 = 2 := by omega
theorem mod5 (n : Nat) : n % 5 = 0 ∨ n % 5 = 1 ∨ n % 5 = 2 ∨ n % 5 = 3 ∨ n % 5 = 4 := by omega
theorem mul_ok3 (n : Nat) : MulOk (Str.ofString "0") ((n % 3 : Nat) : Int) := by
  rcases mod3 n with h | h | h <;> rw [h] <;> refine ⟨by decide, by decide, by decide⟩
theorem zeros_len (st k : Nat) : (zerosAt st k).length ≤ 2 := by
  unfold zerosAt; rcases mod3 (st + k) with h | h | h <;> rw [h] <;> decide
theorem gap_len (ps : List Str) (st k : Nat) : (gapAt ps st k).length ≤ 1 := by
  unfold gapAt
  split
  · decide
  · rcases mod5 (st + k) with h | h | h | h | h <;> rw [h] <;> decide
theorem part_len {ps : List Str} (h : ∀ p ∈ ps, p.cps.size ≠ 0 ∧ p.cps.size ≤ 10) (k : Nat) : (partAt ps k).length ≤ 10 := by
  unfold partAt
  rw [List.getD_eq_getElem?_getD]
  cases e : ps[k]? with
  | none => decide
  | some p => exact (h p (List.mem_of_getElem? e)).2
theorem spell_len {ps : List Str} (h : ∀ p ∈ ps, p.cps.size ≠ 0 ∧ p.cps.size ≤ 10) (st : Nat) : ∀ k, (spellTo ps st k).length ≤ 13 * k
  | 0 => Nat.zero_le _
  | k + 1 => by
    have h1 := spell_len h st k
    have h2 := gap_len ps st k
    have h3 := zeros_len st k
    have h4 := part_len h k
    unfold spellTo
    split <;> split <;> (try simp only [PySem.Str.length_append]) <;> omega

set_option maxHeartbeats 8000000 in
theorem sp_spec {w : World} {mg mb : Str → Option Value} {A : PySem.Around} {s : Shared} {R : Result → Shared → Prop} {h₀ : Heap} {outer : List Env} {frs : List (Addr × Obj)}
    {a : Addr} {vs : List Value} {n : Nat} {ps : List Str} {st : Nat} {ts : Tok}
    (G : Gd w mg mb h₀) (B : Bs h₀ outer frs s.heap) (hA : A.frames = some outer) (hroom : A.depth + 40 < recursionLimit) (hh : A.handled = none)
    (ha : s.heap.get? a = some (W.listOf vs.toArray n)) (hvs : SV vs ps) (haf : a ∉ frA frs) (hlen : ps.length ≤ 100) (hps : ∀ p ∈ ps, p.cps.size ≠ 0 ∧ p.cps.size ≤ 10) (hst : st ≤ 100)
    (k : ∀ h' tk' frs' t, Kx frs frs' s.heap h' → R (.ok (.ret (.str (spellTo ps st ps.length) t))) { s with heap := h', toks := tk' }) :
    codeC (model Challenge.rw_ph0088_01.row.prog w) A (.call (.ref 101) ⟨[.ref a, .int (st : Int) ts], []⟩) R s := by
  have X := (G.keeps B.base).X
  have T := (G.keeps B.base).T
  have habase := (TI.gone_get haf).trans ha
  revert X; k_fill; intro X
  refine call_C (K := hd.heap_39 w.params) (binds := [(Str.ofString "parts", .ref a), (Str.ofString "style", .int (st : Int) ts)]) B G.X G.T.nolimit rfl rfl (by omega) (BindsTo.of_eq rfl) rfl (fun L h₁ F N => ?_)
  refine wpC_execs_any ?_
  k_steps
  try dsimp only
  rename Fr _ _ _ _ => F
  rename News _ _ _ _ => N
  refine wpC_execs_cons (wpC_For ?_)
  k_steps
  have habase1 := F.keep a _ habase
  have esz : vs.toArray.size = ps.length := by rw [List.size_toArray, hvs.length]
  refine Calls.call_len_list ⟨_, habase1, rfl, _, rfl⟩ (by rw [esz]; omega) ?_
  rw [esz]
  k_steps
  rename_i hrg F3 N3 hkp
  clear hkp
  dsimp only at hrg F3 N3 ⊢
  refine loopC_range (n := ps.length) (fun i m' nx => TI.SameUp frs nx ∧ TI.Frs outer nx ∧ m' (Str.ofString "parts") = some (.ref a) ∧ m' (Str.ofString "style") = some (.int (st : Int) ts) ∧ ∃ t, m' (Str.ofString "label") = some (.str (spellTo ps st i) t)) hh hrg rfl (by omega) F3 N3 ⟨TI.SameUp.refl _, B.isf, rfl, rfl, _, rfl⟩ ?_ ?_ ?_
  · rintro i ti m₁ nx h tk own hi hown ⟨SU, Fs, mp, ms, tl, ml⟩ F1 N1
    have F2 := pins (pin F1 (a := Str.ofString "k") (v := .int (i : Int) ti) rfl) [(Str.ofString "parts", .ref a), (Str.ofString "style", .int (st : Int) ts), (Str.ofString "label", .str (spellTo ps st i) tl), (Str.ofString "k", .int (i : Int) ti)] ⟨mp, ms, ml, rfl, trivial⟩
    clear F1 F3
    dsimp only at F2 N1 ⊢
    have hm5 : ((st : Int) + (i : Int)).fmod 5 = (((st + i) % 5 : Nat) : Int) := by rw [Int.fmod_eq_emod_of_nonneg _ (by decide)]; omega
    have hm3 : ((st : Int) + (i : Int)).fmod 3 = (((st + i) % 3 : Nat) : Int) := by rw [Int.fmod_eq_emod_of_nonneg _ (by decide)]; omega
    obtain ⟨v, hv, tv, rfl⟩ : ∃ v, vs[i]? = some v ∧ ∃ t, v = .str (partAt ps i) t := by
      obtain ⟨v, hv⟩ : ∃ v, vs[i]? = some v := ⟨_, List.getElem?_eq_getElem (by rw [hvs.length]; omega)⟩
      obtain ⟨l', hl', t, rfl⟩ := hvs.at hv
      exact ⟨_, hv, t, by unfold partAt; rw [List.getD_eq_getElem?_getD, hl']; rfl⟩
    have hpi := hps (partAt ps i) (by unfold partAt; rw [List.getD_eq_getElem?_getD, List.getElem?_eq_getElem hi]; exact List.getElem_mem hi)
    have hapo : ∀ nx', TI.SameUp frs nx' → ∀ p ∈ own, p.1 ∉ frA nx' := by
      intro nx' SU' p hp hm
      rw [sameUp_addr SU'] at hm
      obtain ⟨q, hq, e⟩ := List.mem_map.mp hm
      have h1 := Heap.lt_size (N3 q hq).1
      rw [show q.1 = p.1 from e, hown p hp] at h1
      exact Nat.lt_irrefl _ h1
    refine wpC_execs_cons (wpC_mono (Q := fun f s' => f = .next ∧ ∃ h tk nx m' t, s' = { s with heap := h, toks := tk } ∧ Fr (bas s.heap frs) L h m' ∧ News (bas s.heap frs) L h (own ++ nx) ∧ TI.SameUp frs nx ∧ TI.Frs outer nx ∧
      Pins m' [(Str.ofString "parts", .ref a), (Str.ofString "style", .int (st : Int) ts), (Str.ofString "label", .str (if i = 0 then spellTo ps st i else spellTo ps st i ++ gapAt ps st i) t), (Str.ofString "k", .int (i : Int) ti)]) (E := NoE) (wpC_If (wpC_of_any ?_)) ?_ fun _ _ x => x)
    · k_steps
      · rename_i hi0
        have hi0 : ¬ i = 0 := by omega
        dsimp only
        refine wpC_execs_any ?_
        k_steps
        rename Fr _ _ _ _ => F
        rename News _ _ _ _ => N
        rename_i l1
        rw [hm5]
        refine item_strsTu (ys := gaps) (l := [_, _, _, _, _]) ⟨_, (N _ (.head _)).1, rfl, _, rfl⟩ ?_ (by omega) (by show (((st + i) % 5 : Nat) : Int) < (5 : Nat); omega) (by omega) ?_
        · repeat constructor
        intro tg
        rw [Int.toNat_natCast]
        have N5 : News (bas s.heap frs) L _ (own ++ nx) := fun p hp => N p (.tail _ hp)
        clear N
        generalize hgg : gaps.getD ((st + i) % 5) Str.empty = gg
        k_steps
        rename Fr _ _ _ _ => F5
        rename News _ _ _ _ => N5
        dsimp only at F5 N5 ⊢
        refine wpC_execs_cons (wpC_mono (Q := fun f s' => f = .next ∧ ∃ h tk nx m' t1 t2, s' = { s with heap := h, toks := tk } ∧ Fr (bas s.heap frs) L h m' ∧ News (bas s.heap frs) L h (own ++ nx) ∧ TI.SameUp frs nx ∧ TI.Frs outer nx ∧
          Pins m' [(Str.ofString "parts", .ref a), (Str.ofString "style", .int (st : Int) ts), (Str.ofString "label", .str (spellTo ps st i) t1), (Str.ofString "k", .int (i : Int) ti), (Str.ofString "gap", .str (gapAt ps st i) t2)]) (E := NoE) (wpC_If (wpC_isTrue_BoolOp (wpC_allTrue_And_cons (wpC_of_any ?_)))) ?_ fun _ _ x => x)
        · k_steps
          · rename_i hge
            have hge : gg = Str.ofString "" := by simpa using hge
            obtain ⟨v2, hv2, tv2, rfl⟩ : ∃ v, vs[i - 1]? = some v ∧ ∃ t, v = .str (partAt ps (i - 1)) t := by
              obtain ⟨v, hv⟩ : ∃ v, vs[i - 1]? = some v := ⟨_, List.getElem?_eq_getElem (by rw [hvs.length]; omega)⟩
              obtain ⟨l', hl', t, rfl⟩ := hvs.at hv
              exact ⟨_, hv, t, by unfold partAt; rw [List.getD_eq_getElem?_getD, hl']; rfl⟩
            have hpj := hps (partAt ps (i - 1)) (by unfold partAt; rw [List.getD_eq_getElem?_getD, List.getElem?_eq_getElem (by omega)]; exact List.getElem_mem (by omega))
            dsimp only
            refine wpC_allTrue_And_cons (wpC_isTrue_Compare1 (wpC_Call_Name ?_))
            k_steps
            refine wpC_call_K0 (K := hd.heap_39 w.params) rfl (wpC_of_any ?_)
            k_steps
            refine item_litK (vs := vs) ⟨_, F5.keep a _ habase, rfl, _, rfl⟩ (by omega) (by omega) (v := .str (partAt ps i) tv) (by simpa using hv) ?_
            k_steps
            refine fig_at G B.base F5 N5 Fs (hapo _ SU) hA (by omega) hpi.1 ?_
            intro h6 tk6 nx6 SU6 Fs6 ea6 F6 N6
            clear F5 N5
            dsimp only
            refine wpC_Call_Name ?_
            k_steps
            refine wpC_call_K0 (K := hd.heap_39 w.params) rfl (wpC_of_any ?_)
            k_steps
            refine item_litK (vs := vs) ⟨_, F6.keep a _ habase, rfl, _, rfl⟩ (by omega) (by omega) (v := .str (partAt ps (i - 1)) tv2) (by rw [show ((i : Int) - 1).toNat = i - 1 by omega]; exact hv2) ?_
            k_steps
            refine fig_at G B.base F6 N6 Fs6 (hapo _ (SU.trans SU6)) hA (by omega) hpj.1 ?_
            intro h7 tk7 nx7 SU7 Fs7 ea7 F7 N7
            clear F6 N6
            dsimp only
            k_steps
            · rename_i hfe
              have hfe : figOf (partAt ps i) = figOf (partAt ps (i - 1)) := by simpa using hfe
              refine wpC_of_any (wpAny_allTrue_And_nil ?_)
              rw [if_pos rfl]
              refine wpC_execs_any ?_
              k_steps
              rename Fr _ _ _ _ => F8
              rename News _ _ _ _ => N8
              dsimp only
              have : gapAt ps st i = Str.ofString "." := by unfold gapAt; rw [hgg, if_pos ⟨hge, hfe⟩]
              rw [this]
              exact wpC_execs_nil ⟨rfl, _, _, _, _, tl, _, rfl, F8, N8, (SU.trans SU6).trans SU7, Fs7, rfl, rfl, rfl, rfl, rfl, trivial⟩
            · rename_i hfe
              have hfe : ¬ figOf (partAt ps i) = figOf (partAt ps (i - 1)) := by simpa using hfe
              refine wpC_execs_nil ⟨rfl, _, _, _, _, tl, tg, rfl, F7, N7, (SU.trans SU6).trans SU7, Fs7, ?_⟩
              have : gapAt ps st i = gg := by unfold gapAt; rw [hgg, if_neg (fun h => hfe h.2)]
              rw [this]
              exact ⟨rfl, rfl, rfl, rfl, rfl, trivial⟩
          · rename_i hge
            have hge : ¬ gg = Str.ofString "" := by simpa using hge
            refine wpC_execs_nil ⟨rfl, _, _, _, _, tl, tg, rfl, F5, N5, SU, Fs, ?_⟩
            have : gapAt ps st i = gg := by unfold gapAt; rw [hgg, if_neg (fun h => hge h.1)]
            rw [this]
            exact ⟨rfl, rfl, rfl, rfl, rfl, trivial⟩
        · rintro f s' ⟨rfl, h6, tk6, nx6, m6, t61, t62, rfl, F6, N6, SU6, Fs6, P6⟩
          have F7 := pins F6 _ P6
          clear F6 F5 N5
          dsimp only
          refine wpC_execs_any ?_
          k_steps
          refine iadd_str ?_ (by rw [sizeLine_eq]; have h1 := spell_len hps st i; have h2 := gap_len ps st i; omega)
          intro t8 tk8
          k_steps
          rename Fr _ _ _ _ => F8
          rename News _ _ _ _ => N8
          dsimp only
          refine wpC_execs_nil ⟨rfl, _, _, _, _, t8, rfl, F8, N8, SU6, Fs6, ?_⟩
          rw [if_neg hi0]
          exact ⟨rfl, rfl, rfl, rfl, trivial⟩
      · rename_i hi0
        have hi0 : i = 0 := by omega
        refine wpC_execs_nil ⟨rfl, _, _, _, _, tl, rfl, F2, N1, SU, Fs, ?_⟩
        rw [if_pos hi0]
        exact ⟨rfl, rfl, rfl, rfl, trivial⟩
    · rintro f s' ⟨rfl, h4, tk4, nx4, m4, t4, rfl, F4, N4, SU4, Fs4, P4⟩
      have F5 := pins F4 _ P4
      clear F4
      dsimp only
      refine wpC_execs_cons (wpC_mono (Q := fun f s' => f = .next ∧ ∃ h tk nx m' t, s' = { s with heap := h, toks := tk } ∧ Fr (bas s.heap frs) L h m' ∧ News (bas s.heap frs) L h (own ++ nx) ∧ TI.SameUp frs nx ∧ TI.Frs outer nx ∧
        Pins m' [(Str.ofString "parts", .ref a), (Str.ofString "style", .int (st : Int) ts), (Str.ofString "label", .str (if figOf (partAt ps i) then (if i = 0 then spellTo ps st i else spellTo ps st i ++ gapAt ps st i) ++ zerosAt st i else (if i = 0 then spellTo ps st i else spellTo ps st i ++ gapAt ps st i)) t), (Str.ofString "k", .int (i : Int) ti)]) (E := NoE) (wpC_If (wpC_isTrue_Call (wpC_Call_Name ?_))) ?_ fun _ _ x => x)
      · k_steps
        refine wpC_call_K0 (K := hd.heap_39 w.params) rfl (wpC_of_any ?_)
        k_steps
        refine item_litK (vs := vs) ⟨_, F5.keep a _ habase, rfl, _, rfl⟩ (by omega) (by omega) (v := .str (partAt ps i) tv) (by simpa using hv) ?_
        k_steps
        refine fig_at G B.base F5 N4 Fs4 (hapo _ SU4) hA (by omega) hpi.1 ?_
        intro h6 tk6 nx6 SU6 Fs6 ea6 F6 N6
        clear F5 N4
        dsimp only
        have hl1 : (if i = 0 then spellTo ps st i else spellTo ps st i ++ gapAt ps st i).length ≤ 2000 := by
          have h1 := spell_len hps st i; have h2 := gap_len ps st i
          split
          · omega
          · rw [PySem.Str.length_append]; omega
        generalize (if i = 0 then spellTo ps st i else spellTo ps st i ++ gapAt ps st i) = lab at F6 hl1 ⊢
        cases hf : figOf (partAt ps i) with
        | true =>
          k_steps
          refine wpC_execs_any ?_
          k_steps
          rename Fr _ _ _ _ => F8
          rename News _ _ _ _ => N8
          rw [hm3] at F8
          dsimp only
          exact wpC_execs_nil ⟨rfl, _, _, _, _, _, rfl, F8, N8, SU4.trans SU6, Fs6, rfl, rfl, rfl, rfl, trivial⟩
        | false =>
          k_steps
          exact wpC_execs_nil ⟨rfl, _, _, _, _, t4, rfl, F6, N6, SU4.trans SU6, Fs6, rfl, rfl, rfl, rfl, trivial⟩
      · rintro f s' ⟨rfl, h7, tk7, nx7, m7, t7, rfl, F7, N7, SU7, Fs7, P7⟩
        have F8 := pins F7 _ P7
        clear F7 F5 N4
        dsimp only
        refine wpC_execs_any ?_
        k_steps
        refine item_litK (vs := vs) ⟨_, F8.keep a _ habase, rfl, _, rfl⟩ (by omega) (by omega) (v := .str (partAt ps i) tv) (by simpa using hv) ?_
        k_steps
        refine iadd_str ?_ ?_
        · intro t9 tk9
          k_steps
          rename Fr _ _ _ _ => F9
          rename News _ _ _ _ => N9
          dsimp only
          exact wpC_execs_nil ⟨_, _, _, _, rfl, F9, N9, SU7, Fs7, rfl, rfl, _, rfl⟩
        · rw [sizeLine_eq]
          have h1 := spell_len hps st i; have h2 := gap_len ps st i; have h3 := zeros_len st i; have h4 := part_len hps i
          split <;> split <;> (try simp only [PySem.Str.length_append]) <;> omega
  · rintro i m' nx ⟨SU, _⟩ p hp e
    have : p.1 ∈ frA frs := by rw [← sameUp_addr SU]; exact List.mem_map.mpr ⟨p, hp, rfl⟩
    obtain ⟨q, hq, e2⟩ := List.mem_map.mp this
    have h1 := Heap.lt_size (N3 q hq).1
    rw [show q.1 = p.1 from e2, e] at h1
    exact Nat.lt_irrefl _ h1
  · rintro m₁ nx h tk ⟨SU, Fs, mp, ms, tl, ml⟩ F1 N1
    have F2 := pins F1 [(Str.ofString "label", .str (spellTo ps st ps.length) tl)] ⟨ml, trivial⟩
    clear F1 F3 N3
    dsimp only
    refine wpC_execs_any ?_
    k_steps
    exact k _ _ _ _ (Kx.of F2 SU fun p hp => (N1 p hp).1)
end Mine
end
section
open PySem PySem.W PyProof.Rows PySem.Calls
set_option Elab.async false
set_option linter.unusedVariables false
set_option maxRecDepth 100000
namespace Mine
def plainC (c : Nat) : Bool := !(Sre.isDigit c || isSep c)
theorem getD_drop {t : Array Nat} {p c : Nat} {r : List Nat} (h : t.toList.drop p = c :: r) : t.getD p 0 = c := by
  have e : t.toList[p]? = some c := by rw [← List.head?_drop, h]; rfl
  rw [Array.getD_eq_getD_getElem?, ← Array.getElem?_toList, e]; rfl
theorem getD_end {t : Array Nat} {p : Nat} (h : t.toList.drop p = []) : t.getD p 0 = 0 := by
  have e : t.toList[p]? = none := by rw [← List.head?_drop, h]; rfl
  rw [Array.getD_eq_getD_getElem?, ← Array.getElem?_toList, e]; rfl
theorem drop_succ {l : List Nat} {p c : Nat} {r : List Nat} (h : l.drop p = c :: r) : l.drop (p + 1) = r := by
  rw [← List.tail_drop, h]; rfl
theorem drop_add {l w r : List Nat} {p : Nat} (h : l.drop p = w ++ r) : l.drop (p + w.length) = r := by
  rw [← List.drop_drop, h, List.drop_left]
theorem size_drop {t : Array Nat} {w : List Nat} {p : Nat} (h : t.toList.drop p = w) (hp : p ≤ t.size) : t.size = p + w.length := by
  have := congrArg List.length h
  rw [List.length_drop, Array.length_toList] at this; omega
theorem ext_drop {t : Array Nat} {p : Nat} {w r : List Nat} (h : t.toList.drop p = w ++ r) : ext t p (p + w.length) = ⟨w.toArray⟩ := by
  unfold ext
  congr 1
  apply Array.toList_inj.mp
  rw [Array.toList_extract]
  show List.take (p + w.length - p) (t.toList.drop p) = _
  rw [h, Nat.add_sub_cancel_left, List.take_left]
theorem firstAt_hit (t : Array Nat) : ∀ (w : List Nat) (n p c : Nat) (r : List Nat), t.toList.drop p = w ++ c :: r → w.all plainC = true → plainC c = false → w.length < n → firstAt t n p = p + w.length
  | [], n, p, c, r, h, hw, hc, hn => by
    cases n with
    | zero => exact absurd hn (Nat.lt_irrefl _)
    | succ n =>
      rw [firstAt, getD_drop h]
      unfold plainC at hc
      rw [if_pos (by cases h : (Sre.isDigit c || isSep c) with | true => rfl | false => rw [h] at hc; cases hc)]; rfl
  | a :: w, n, p, c, r, h, hw, hc, hn => by
    cases n with
    | zero => exact absurd hn (Nat.not_lt_zero _)
    | succ n =>
      rw [List.all_cons, Bool.and_eq_true] at hw
      have ha := hw.1
      unfold plainC at ha
      rw [firstAt, getD_drop h, if_neg (by simpa using ha), firstAt_hit t w n (p + 1) c r (drop_succ h) hw.2 hc (by simpa using hn), List.length_cons]
      omega
theorem firstAt_end (t : Array Nat) : ∀ (w : List Nat) (p : Nat), t.toList.drop p = w → w.all plainC = true → firstAt t w.length p = p + w.length
  | [], p, h, hw => rfl
  | a :: w, p, h, hw => by
    rw [List.all_cons, Bool.and_eq_true] at hw
    have ha := hw.1
    unfold plainC at ha
    rw [List.length_cons, firstAt, getD_drop h, if_neg (by simpa using ha), firstAt_end t w (p + 1) (drop_succ h) hw.2]
    omega
theorem digs_run (t : Array Nat) : ∀ (d : List Nat) (n p : Nat) (r : List Nat), t.toList.drop p = d ++ r → d.all Sre.isDigit = true → (∀ c r', r = c :: r' → Sre.isDigit c = false) → d.length ≤ n → digs t n p = d.length
  | [], n, p, r, h, hd, hr, hn => by
    cases n with
    | zero => rfl
    | succ n =>
      rw [digs]
      cases r with
      | nil => rw [getD_end h]; rfl
      | cons c r' => rw [getD_drop h, hr c r' rfl]; rfl
  | a :: d, n, p, r, h, hd, hr, hn => by
    cases n with
    | zero => exact absurd hn (Nat.not_succ_le_zero _)
    | succ n =>
      rw [List.all_cons, Bool.and_eq_true] at hd
      rw [digs, getD_drop h, if_pos hd.1, digs_run t d n (p + 1) r (drop_succ h) hd.2 hr (by simpa using hn)]; rfl
/-- no hit left -/
theorem toks_end {t : Array Nat} {p : Nat} {w : List Nat} (h : t.toList.drop p = w) (hp : p ≤ t.size) (hw : w.all plainC = true) : ∀ f, toks t f p = [⟨w.toArray⟩] := by
  have hs := size_drop h hp
  have he : ext t p t.size = ⟨w.toArray⟩ := by rw [hs]; exact ext_drop (r := []) (by rw [List.append_nil]; exact h)
  intro f
  cases f with
  | zero => rw [toks, he]
  | succ f =>
    rw [toks]
    have : nextQ t p = t.size := by
      show firstAt t (t.size - p) p = _
      rw [show t.size - p = w.length by omega, firstAt_end t w p h hw]; omega
    rw [this, if_neg (Nat.lt_irrefl _), he]
/-- a sign -/
theorem toks_sep {t : Array Nat} {p c f : Nat} {w r : List Nat} (h : t.toList.drop p = w ++ c :: r) (hp : p ≤ t.size) (hw : w.all plainC = true) (hc : isSep c = true) (hd : Sre.isDigit c = false) :
    toks t (f + 1) p = ⟨w.toArray⟩ :: ⟨#[c]⟩ :: toks t f (p + w.length + 1) ∧ t.toList.drop (p + w.length + 1) = r ∧ p + w.length + 1 ≤ t.size := by
  have hs := size_drop h hp
  rw [List.length_append, List.length_cons] at hs
  have hq : nextQ t p = p + w.length := firstAt_hit t w _ p c r h hw (by unfold plainC; rw [hc]; simp) (by omega)
  have hdr := drop_add h
  have hend : hitEnd t (p + w.length) = p + w.length + 1 := by unfold hitEnd; rw [getD_drop hdr, hd]; rfl
  refine ⟨?_, drop_succ hdr, by omega⟩
  rw [toks, hq, if_pos (by omega), hend, ext_drop h]
  have := ext_drop (t := t) (p := p + w.length) (w := [c]) (r := r) hdr
  rw [show [c].length = 1 from rfl] at this
  rw [this]
/-- a number -/
theorem toks_num {t : Array Nat} {p f : Nat} {w d r : List Nat} (h : t.toList.drop p = w ++ (d ++ r)) (hp : p ≤ t.size) (hw : w.all plainC = true) (hd : d.all Sre.isDigit = true) (hne : d ≠ []) (hr : ∀ c r', r = c :: r' → Sre.isDigit c = false) :
    toks t (f + 1) p = ⟨w.toArray⟩ :: ⟨d.toArray⟩ :: toks t f (p + w.length + d.length) ∧ t.toList.drop (p + w.length + d.length) = r ∧ p + w.length + d.length ≤ t.size := by
  have hs := size_drop h hp
  rw [List.length_append, List.length_append] at hs
  obtain ⟨c, d', rfl⟩ : ∃ c d', d = c :: d' := by cases d with | nil => exact absurd rfl hne | cons c d' => exact ⟨c, d', rfl⟩
  have hcd : Sre.isDigit c = true := by rw [List.all_cons, Bool.and_eq_true] at hd; exact hd.1
  have hq : nextQ t p = p + w.length := firstAt_hit t w _ p c (d' ++ r) h hw (by unfold plainC; rw [hcd]; rfl) (by rw [List.length_cons] at hs; omega)
  have hdr := drop_add h
  have hend : hitEnd t (p + w.length) = p + w.length + (c :: d').length := by
    unfold hitEnd
    rw [getD_drop (c := c) (r := d' ++ r) hdr, if_pos hcd]
    show _ + digs t _ _ = _
    rw [digs_run t (c :: d') _ _ r hdr hd hr (by omega)]
  refine ⟨?_, drop_add hdr, by omega⟩
  rw [toks, hq, if_pos (by rw [List.length_cons] at hs; omega), hend, ext_drop h, ext_drop hdr]
end Mine
end
section
open PySem PySem.W PyProof.Rows PySem.Calls
set_option Elab.async false
set_option linter.unusedVariables false
set_option maxRecDepth 100000
namespace Mine
/-- what is asked of a part -/
structure PartOk (p : Str) : Prop where
  size : p.cps.size ≠ 0 ∧ p.cps.size ≤ 10
  word : figOf p = false → p.cps.toList.all plainC = true ∧ TokOk p
  num : figOf p = true → p.cps.toList.all Sre.isDigit = true ∧ ∀ j, j < 3 → TokOk ⟨(List.replicate j 48 ++ p.cps.toList).toArray⟩ ∧ atomsOf ⟨(List.replicate j 48 ++ p.cps.toList).toArray⟩ = atomsOf p
/-- rows of tokens and what they are told as -/
def Told (l : List Str) (as : List Atom) : Prop := (∀ v ∈ l, TokOk v) ∧ l.flatMap atomsOf = as
theorem Told.cons {v : Str} {l : List Str} {as bs : List Atom} (h : TokOk v) (e : atomsOf v = as) (k : Told l bs) : Told (v :: l) (as ++ bs) :=
  ⟨fun u hu => (List.mem_cons.mp hu).elim (fun q => q ▸ h) (k.1 u), by rw [List.flatMap_cons, e, k.2]⟩
theorem Told.one {v : Str} {as : List Atom} (h : TokOk v) (e : atomsOf v = as) : Told [v] as :=
  ⟨fun u hu => by rw [List.mem_singleton.mp hu]; exact h, by rw [List.flatMap_cons, e]; simp⟩

/-- the sign between two parts, as figures -/
def gapL (ps : List Str) (st k : Nat) : List Nat := (gapAt ps st k).cps.toList
def zerosL (st k : Nat) : List Nat := List.replicate ((st + k) % 3) 48
theorem zeros_eq (st k : Nat) : (zerosAt st k).cps.toList = zerosL st k := by
  unfold zerosAt zerosL; rcases mod3 (st + k) with h | h | h <;> rw [h] <;> rfl
def bodyL (ps : List Str) (st k : Nat) : List Nat := if figOf (partAt ps k) then zerosL st k ++ (partAt ps k).cps.toList else (partAt ps k).cps.toList
def pieceL (ps : List Str) (st k : Nat) : List Nat := (if k = 0 then [] else gapL ps st k) ++ bodyL ps st k
def textL (ps : List Str) (st : Nat) : Nat → Nat → List Nat
  | 0, _ => []
  | m + 1, k => pieceL ps st k ++ textL ps st m (k + 1)
theorem spell_succ (ps : List Str) (st k : Nat) : (spellTo ps st (k + 1)).cps.toList = (spellTo ps st k).cps.toList ++ pieceL ps st k := by
  unfold pieceL bodyL gapL
  rw [spellTo]
  split <;> split <;> simp only [PySem.Str.cps_append, Array.toList_append, zeros_eq, List.append_assoc, List.nil_append]
theorem spell_text (ps : List Str) (st : Nat) : ∀ m k, (spellTo ps st (k + m)).cps.toList = (spellTo ps st k).cps.toList ++ textL ps st m k
  | 0, k => by simp [textL]
  | m + 1, k => by
    rw [show k + (m + 1) = (k + 1) + m by omega, spell_text ps st m (k + 1), spell_succ, textL, List.append_assoc]
theorem spell_all (ps : List Str) (st n : Nat) : (spellTo ps st n).cps.toList = textL ps st n 0 := by
  have := spell_text ps st n 0
  rw [Nat.zero_add] at this
  rw [this]; rfl

theorem gap_cases (ps : List Str) (st k : Nat) : (gapL ps st k = [] ∧ figOf (partAt ps k) ≠ figOf (partAt ps (k - 1))) ∨ ∃ c, gapL ps st k = [c] ∧ isSep c = true ∧ Sre.isDigit c = false ∧ TokOk ⟨#[c]⟩ ∧ atomsOf ⟨#[c]⟩ = [] := by
  have sep : ∀ c, c ∈ [46, 45, 95, 43] → isSep c = true ∧ Sre.isDigit c = false ∧ TokOk ⟨#[c]⟩ ∧ atomsOf ⟨#[c]⟩ = [] := by
    intro c hc
    have hs : skipTok ⟨#[c]⟩ = true := by revert c; decide +kernel
    exact ⟨by revert c; decide +kernel, by revert c; decide +kernel, .inl hs, by unfold atomsOf; rw [hs]; rfl⟩
  unfold gapL gapAt
  by_cases hg : gaps.getD ((st + k) % 5) Str.empty = Str.ofString "" ∧ figOf (partAt ps k) = figOf (partAt ps (k - 1))
  · rw [if_pos hg]
    exact .inr ⟨46, rfl, sep 46 (by decide)⟩
  · rw [if_neg hg]
    rcases mod5 (st + k) with h | h | h | h | h <;> rw [h] at hg ⊢
    · exact .inl ⟨rfl, fun e => hg ⟨rfl, e⟩⟩
    · exact .inr ⟨46, rfl, sep 46 (by decide)⟩
    · exact .inr ⟨45, rfl, sep 45 (by decide)⟩
    · exact .inr ⟨95, rfl, sep 95 (by decide)⟩
    · exact .inr ⟨43, rfl, sep 43 (by decide)⟩
theorem tok_nil : TokOk ⟨#[]⟩ ∧ atomsOf ⟨#[]⟩ = [] := by
  have hs : skipTok ⟨#[]⟩ = true := by decide +kernel
  exact ⟨.inl hs, by unfold atomsOf; rw [hs]; rfl⟩
end Mine
end
section
open PySem PySem.W PyProof.Rows PySem.Calls
set_option Elab.async false
set_option linter.unusedVariables false
set_option maxRecDepth 100000
namespace Mine
theorem toArray_cps (p : Str) : (⟨p.cps.toList.toArray⟩ : Str) = p := by cases p; simp
theorem part_mem {ps : List Str} {k : Nat} (h : k < ps.length) : partAt ps k ∈ ps := by
  unfold partAt; rw [List.getD_eq_getElem?_getD, List.getElem?_eq_getElem h]; exact List.getElem_mem h
theorem drop_part {ps : List Str} {k : Nat} (h : k < ps.length) : ps.drop k = partAt ps k :: ps.drop (k + 1) := by
  rw [List.drop_eq_getElem_cons h]; unfold partAt; rw [List.getD_eq_getElem?_getD, List.getElem?_eq_getElem h]; rfl
theorem body_ne {ps : List Str} {st k : Nat} (hp : PartOk (partAt ps k)) : bodyL ps st k ≠ [] := by
  have : (partAt ps k).cps.toList ≠ [] := fun e => hp.size.1 (by rw [← Array.length_toList, e]; rfl)
  unfold bodyL
  split
  · intro e; exact this (List.append_eq_nil_iff.mp e).2
  · exact this
/-- behind a number no figure follows -/
theorem text_head {ps : List Str} {st m k : Nat} (hps : ∀ p ∈ ps, PartOk p) (hk : 1 ≤ k) (hm : k + m = ps.length) (hf : figOf (partAt ps (k - 1)) = true) : ∀ c r, textL ps st m k = c :: r → Sre.isDigit c = false := by
  intro c r e
  cases m with
  | zero => cases e
  | succ m =>
    rw [textL, pieceL, if_neg (by omega)] at e
    have hpo := hps _ (part_mem (show k < ps.length by omega))
    rcases gap_cases ps st k with ⟨hg, hne⟩ | ⟨g, hg, _, hd, _⟩
    · rw [hg, List.nil_append] at e
      rw [hf] at hne
      have hw : figOf (partAt ps k) = false := by cases q : figOf (partAt ps k) with | true => exact absurd q hne | false => rfl
      have hb : bodyL ps st k = (partAt ps k).cps.toList := by unfold bodyL; rw [hw]; rfl
      rw [hb] at e
      have hpl := (hpo.word hw).1
      cases q : (partAt ps k).cps.toList with
      | nil => exact absurd (by rw [← Array.length_toList, q]; rfl) hpo.size.1
      | cons a l =>
        rw [q] at e hpl
        rw [List.cons_append] at e
        injection e with e1 _
        subst e1
        rw [List.all_cons, Bool.and_eq_true] at hpl
        have := hpl.1
        unfold plainC at this
        cases z : Sre.isDigit a with
        | false => rfl
        | true => rw [z] at this; cases this
    · rw [hg] at e
      rw [List.append_assoc, List.cons_append] at e
      injection e with e1 _
      subst e1
      exact hd
def pend (ps : List Str) (k : Nat) : List Nat := if figOf (partAt ps k) then [] else (partAt ps k).cps.toList
theorem pend_ok {ps : List Str} {k : Nat} (hp : PartOk (partAt ps k)) : (pend ps k).all plainC = true ∧ TokOk ⟨(pend ps k).toArray⟩ := by
  unfold pend
  cases q : figOf (partAt ps k) with
  | true => exact ⟨rfl, tok_nil.1⟩
  | false => exact ⟨(hp.word q).1, by simp only [Bool.false_eq_true, if_false]; rw [toArray_cps]; exact (hp.word q).2⟩
theorem told_body {t : Array Nat} {ps : List Str} {st k : Nat} {rest : List Nat} {as : List Atom} (hp : PartOk (partAt ps k)) (hrest : figOf (partAt ps k) = true → ∀ c r, rest = c :: r → Sre.isDigit c = false)
    (IH : ∀ p f, t.toList.drop p = pend ps k ++ rest → p ≤ t.size → t.size - p ≤ f → Told (toks t f p) (atomsOf ⟨(pend ps k).toArray⟩ ++ as))
    {p f : Nat} {w : List Nat} (hw : w.all plainC = true) (hwo : TokOk ⟨w.toArray⟩) (hor : figOf (partAt ps k) = true ∨ w = []) (h : t.toList.drop p = w ++ (bodyL ps st k ++ rest)) (hp0 : p ≤ t.size) (hf : t.size - p ≤ f) :
    Told (toks t f p) (atomsOf ⟨w.toArray⟩ ++ (atomsOf (partAt ps k) ++ as)) := by
  have hs := size_drop h hp0
  rw [List.length_append, List.length_append] at hs
  have hbl : 0 < (bodyL ps st k).length := List.length_pos_iff.mpr (body_ne hp)
  cases q : figOf (partAt ps k) with
  | true =>
    have hb : bodyL ps st k = List.replicate ((st + k) % 3) 48 ++ (partAt ps k).cps.toList := by unfold bodyL zerosL; rw [q]; rfl
    obtain ⟨hd, hj⟩ := hp.num q
    have hdig : (bodyL ps st k).all Sre.isDigit = true := by
      rw [hb, List.all_append, hd, Bool.and_true]
      rw [List.all_eq_true]; intro c hc; rw [(List.mem_replicate.mp hc).2]; rfl
    have hj' := hj ((st + k) % 3) (Nat.mod_lt _ (by decide))
    rw [← hb] at hj'
    obtain ⟨f', rfl⟩ : ∃ f', f = f' + 1 := ⟨f - 1, by omega⟩
    obtain ⟨e1, e2, e3⟩ := toks_num (f := f') h hp0 hw hdig (body_ne hp) (hrest q)
    rw [e1]
    have hpe : pend ps k = [] := by unfold pend; rw [q]; rfl
    have hI := IH (p + w.length + (bodyL ps st k).length) f' (by rw [hpe]; exact e2) e3 (by omega)
    rw [hpe, tok_nil.2, List.nil_append] at hI
    exact Told.cons hwo rfl (Told.cons hj'.1 hj'.2 hI)
  | false =>
    have hw0 : w = [] := hor.resolve_left (by rw [q]; exact Bool.false_ne_true)
    subst hw0
    have hb : bodyL ps st k = (partAt ps k).cps.toList := by unfold bodyL; rw [q]; rfl
    have hpe : pend ps k = (partAt ps k).cps.toList := by unfold pend; rw [q]; rfl
    rw [tok_nil.2, List.nil_append]
    have hI := IH p f (by rw [hpe, ← hb]; exact h) hp0 hf
    rw [hpe, toArray_cps] at hI
    exact hI
theorem told_from {t : Array Nat} {ps : List Str} {st : Nat} (hps : ∀ p ∈ ps, PartOk p) : ∀ m k, 1 ≤ k → k + m = ps.length → ∀ p f, t.toList.drop p = pend ps (k - 1) ++ textL ps st m k → p ≤ t.size → t.size - p ≤ f →
    Told (toks t f p) (atomsOf ⟨(pend ps (k - 1)).toArray⟩ ++ (ps.drop k).flatMap atomsOf)
  | 0, k, hk, hm, p, f, h, hp, hf => by
    have hpo := pend_ok (hps _ (part_mem (show k - 1 < ps.length by omega)))
    rw [textL, List.append_nil] at h
    rw [toks_end h hp hpo.1 f, List.drop_eq_nil_of_le (by omega), List.flatMap_nil, List.append_nil]
    exact Told.one hpo.2 rfl
  | m + 1, k, hk, hm, p, f, h, hp, hf => by
    have hpo := pend_ok (hps _ (part_mem (show k - 1 < ps.length by omega)))
    have hpk := hps _ (part_mem (show k < ps.length by omega))
    have IH := told_from (t := t) (st := st) hps m (k + 1) (by omega) (by omega)
    rw [Nat.add_sub_cancel] at IH
    have hrest := fun (q : figOf (partAt ps k) = true) => text_head (st := st) (m := m) (k := k + 1) hps (by omega) (by omega) (by rw [Nat.add_sub_cancel]; exact q)
    rw [textL, pieceL, if_neg (by omega)] at h
    rw [drop_part (show k < ps.length by omega), List.flatMap_cons]
    rcases gap_cases ps st k with ⟨hg, hne⟩ | ⟨g, hg, h1, h2, h3, h4⟩
    · rw [hg, List.nil_append] at h
      refine told_body hpk hrest IH hpo.1 hpo.2 ?_ h hp hf
      cases q : figOf (partAt ps k) with
      | true => exact .inl rfl
      | false =>
        right
        unfold pend
        cases z : figOf (partAt ps (k - 1)) with
        | true => rfl
        | false => rw [q, z] at hne; exact absurd rfl hne
    · rw [hg, List.append_assoc, List.cons_append, List.nil_append] at h
      have hs := size_drop h hp
      rw [List.length_append, List.length_cons] at hs
      obtain ⟨f', rfl⟩ : ∃ f', f = f' + 1 := ⟨f - 1, by omega⟩
      obtain ⟨e1, e2, e3⟩ := toks_sep (f := f') h hp hpo.1 h1 h2
      rw [e1]
      have hI := told_body hpk hrest IH (p := p + (pend ps (k - 1)).length + 1) (f := f') (w := []) rfl tok_nil.1 (.inr rfl) (by rw [List.nil_append]; exact e2) e3 (by omega)
      rw [tok_nil.2, List.nil_append] at hI
      exact Told.cons hpo.2 rfl (by have := Told.cons h3 h4 hI; rw [List.nil_append] at this; exact this)
/-- what a spelled label is told as -/
theorem told_spell {ps : List Str} (st : Nat) (hps : ∀ p ∈ ps, PartOk p) (hne : ps ≠ []) (hlen : ps.length ≤ 70) : LabOk (spellTo ps st ps.length) ∧ keyOf (spellTo ps st ps.length) = ps.flatMap atomsOf := by
  obtain ⟨n, hn⟩ : ∃ n, ps.length = n + 1 := ⟨ps.length - 1, by have := List.length_pos_iff.mpr hne; omega⟩
  have hp0 := hps _ (part_mem (show 0 < ps.length by omega))
  have htx : (spellTo ps st ps.length).cps.toList = [] ++ (bodyL ps st 0 ++ textL ps st n 1) := by
    rw [spell_all, hn, textL, pieceL, if_pos rfl, List.nil_append, List.nil_append]
  have IH := told_from (t := (spellTo ps st ps.length).cps) (st := st) hps n 1 (by omega) (by omega)
  have T : Told (toks (spellTo ps st ps.length).cps (spellTo ps st ps.length).cps.size 0) _ := told_body (p := 0) (w := []) (f := (spellTo ps st ps.length).cps.size) hp0 (fun q => text_head (st := st) (m := n) (k := 1) hps (by omega) (by omega) q) IH rfl tok_nil.1 (.inr rfl) (by rw [List.drop_zero]; exact htx) (Nat.zero_le _) (by omega)
  rw [tok_nil.2, List.nil_append] at T
  have hfm : ps.flatMap atomsOf = atomsOf (partAt ps 0) ++ (ps.drop 1).flatMap atomsOf := by
    have := drop_part (show 0 < ps.length by omega)
    rw [List.drop_zero] at this
    rw [← List.flatMap_cons, ← this]
  have hl := spell_len (fun p hp => (hps p hp).size) st ps.length
  refine ⟨⟨?_, T.1⟩, ?_⟩
  · show (spellTo ps st ps.length).length ≤ 1000; omega
  · unfold keyOf; rw [T.2, hfm]
end Mine
end
section
open PySem PySem.W PyProof.Rows PySem.Calls
set_option Elab.async false
set_option linter.unusedVariables false
set_option maxRecDepth 100000
namespace Mine
theorem word_part {p : Str} (h0 : p.cps.size ≠ 0 ∧ p.cps.size ≤ 10) (h1 : figOf p = false) (h2 : p.cps.toList.all plainC = true) (h3 : PySem.intText? p = none) (h4 : (numSeenOf p).length ≤ 640) (h5 : (int_private% "readNumeral") 0 10 (numSeenOf p) = int_private% "Numeral.invalid") (h6 : (reprText p).length ≤ sizeLine) : PartOk p :=
  ⟨h0, fun _ => ⟨h2, .inr (.inr ⟨h3, h4, h5, h6⟩)⟩, fun h => by rw [h1] at h; cases h⟩
theorem num_part {p : Str} {n : Int} (h0 : p.cps.size ≠ 0 ∧ p.cps.size ≤ 10) (h1 : figOf p = true) (h2 : p.cps.toList.all Sre.isDigit = true) (h3 : PySem.intText? p = some n) (hs : skipTok p = false)
    (k0 : PySem.intText? ⟨(List.replicate 1 48 ++ p.cps.toList).toArray⟩ = some n) (s0 : skipTok ⟨(List.replicate 1 48 ++ p.cps.toList).toArray⟩ = false)
    (k1 : PySem.intText? ⟨(List.replicate 2 48 ++ p.cps.toList).toArray⟩ = some n) (s1 : skipTok ⟨(List.replicate 2 48 ++ p.cps.toList).toArray⟩ = false) : PartOk p := by
  refine ⟨h0, fun h => ?_, fun _ => ⟨h2, fun j hj => ?_⟩⟩
  · rw [h1] at h; cases h
  have hlen : ∀ j, j < 3 → (⟨(List.replicate j 48 ++ p.cps.toList).toArray⟩ : Str).length ≤ 640 := by
    intro j hj
    show (List.replicate j 48 ++ p.cps.toList).toArray.size ≤ 640
    rw [List.size_toArray, List.length_append, List.length_replicate, Array.length_toList]; omega
  have ha : ∀ v : Str, PySem.intText? v = some n → skipTok v = false → atomsOf v = [.i 100, .i n] := fun v h k => by unfold atomsOf; rw [k, h]; rfl
  have e0 : (⟨(List.replicate 0 48 ++ p.cps.toList).toArray⟩ : Str) = p := toArray_cps p
  rcases j with _ | _ | _ | j
  · rw [e0]; exact ⟨.inr (.inl ⟨n, h3, by have := hlen 0 (by omega); rw [e0] at this; exact this⟩), rfl⟩
  · exact ⟨.inr (.inl ⟨n, k0, hlen 1 (by omega)⟩), by rw [ha _ k0 s0, ha _ h3 hs]⟩
  · exact ⟨.inr (.inl ⟨n, k1, hlen 2 (by omega)⟩), by rw [ha _ k1 s1, ha _ h3 hs]⟩
  · omega
end Mine
end
section
open PySem PySem.W PyProof.Rows PySem.Calls
set_option Elab.async false
set_option linter.unusedVariables false
set_option maxRecDepth 100000
namespace Mine
def fall : List Str := [Str.ofString "pl", Str.ofString "p", Str.ofString "120", Str.ofString "12", Str.ofString "11", Str.ofString "10", Str.ofString "9", Str.ofString "1", Str.ofString "0", Str.ofString "rc", Str.ofString "RC", Str.ofString "c", Str.ofString "beta", Str.ofString "b", Str.ofString "alpha", Str.ofString "a", Str.ofString "dev", Str.ofString "x", Str.ofString "devel", Str.ofString "al", Str.ofString "Rc"]
theorem ok_pl : PartOk (Str.ofString "pl") := word_part (by decide +kernel) (by decide +kernel) (by decide +kernel) (by decide +kernel) (by decide +kernel) (by kernel_rfl) (by decide +kernel)
theorem ok_p : PartOk (Str.ofString "p") := word_part (by decide +kernel) (by decide +kernel) (by decide +kernel) (by decide +kernel) (by decide +kernel) (by kernel_rfl) (by decide +kernel)
theorem ok_120 : PartOk (Str.ofString "120") := num_part (n := 120) (by decide +kernel) (by decide +kernel) (by decide +kernel) (by decide +kernel) (by decide +kernel) (by decide +kernel) (by decide +kernel) (by decide +kernel) (by decide +kernel)
theorem ok_12 : PartOk (Str.ofString "12") := num_part (n := 12) (by decide +kernel) (by decide +kernel) (by decide +kernel) (by decide +kernel) (by decide +kernel) (by decide +kernel) (by decide +kernel) (by decide +kernel) (by decide +kernel)
theorem ok_11 : PartOk (Str.ofString "11") := num_part (n := 11) (by decide +kernel) (by decide +kernel) (by decide +kernel) (by decide +kernel) (by decide +kernel) (by decide +kernel) (by decide +kernel) (by decide +kernel) (by decide +kernel)
theorem ok_10 : PartOk (Str.ofString "10") := num_part (n := 10) (by decide +kernel) (by decide +kernel) (by decide +kernel) (by decide +kernel) (by decide +kernel) (by decide +kernel) (by decide +kernel) (by decide +kernel) (by decide +kernel)
theorem ok_9 : PartOk (Str.ofString "9") := num_part (n := 9) (by decide +kernel) (by decide +kernel) (by decide +kernel) (by decide +kernel) (by decide +kernel) (by decide +kernel) (by decide +kernel) (by decide +kernel) (by decide +kernel)
theorem ok_1 : PartOk (Str.ofString "1") := num_part (n := 1) (by decide +kernel) (by decide +kernel) (by decide +kernel) (by decide +kernel) (by decide +kernel) (by decide +kernel) (by decide +kernel) (by decide +kernel) (by decide +kernel)
theorem ok_0 : PartOk (Str.ofString "0") := num_part (n := 0) (by decide +kernel) (by decide +kernel) (by decide +kernel) (by decide +kernel) (by decide +kernel) (by decide +kernel) (by decide +kernel) (by decide +kernel) (by decide +kernel)
theorem ok_rc : PartOk (Str.ofString "rc") := word_part (by decide +kernel) (by decide +kernel) (by decide +kernel) (by decide +kernel) (by decide +kernel) (by kernel_rfl) (by decide +kernel)
theorem ok_RC : PartOk (Str.ofString "RC") := word_part (by decide +kernel) (by decide +kernel) (by decide +kernel) (by decide +kernel) (by decide +kernel) (by kernel_rfl) (by decide +kernel)
theorem ok_c : PartOk (Str.ofString "c") := word_part (by decide +kernel) (by decide +kernel) (by decide +kernel) (by decide +kernel) (by decide +kernel) (by kernel_rfl) (by decide +kernel)
theorem ok_beta : PartOk (Str.ofString "beta") := word_part (by decide +kernel) (by decide +kernel) (by decide +kernel) (by decide +kernel) (by decide +kernel) (by kernel_rfl) (by decide +kernel)
theorem ok_b : PartOk (Str.ofString "b") := word_part (by decide +kernel) (by decide +kernel) (by decide +kernel) (by decide +kernel) (by decide +kernel) (by kernel_rfl) (by decide +kernel)
theorem ok_alpha : PartOk (Str.ofString "alpha") := word_part (by decide +kernel) (by decide +kernel) (by decide +kernel) (by decide +kernel) (by decide +kernel) (by kernel_rfl) (by decide +kernel)
theorem ok_a : PartOk (Str.ofString "a") := word_part (by decide +kernel) (by decide +kernel) (by decide +kernel) (by decide +kernel) (by decide +kernel) (by kernel_rfl) (by decide +kernel)
theorem ok_dev : PartOk (Str.ofString "dev") := word_part (by decide +kernel) (by decide +kernel) (by decide +kernel) (by decide +kernel) (by decide +kernel) (by kernel_rfl) (by decide +kernel)
theorem ok_x : PartOk (Str.ofString "x") := word_part (by decide +kernel) (by decide +kernel) (by decide +kernel) (by decide +kernel) (by decide +kernel) (by kernel_rfl) (by decide +kernel)
theorem ok_devel : PartOk (Str.ofString "devel") := word_part (by decide +kernel) (by decide +kernel) (by decide +kernel) (by decide +kernel) (by decide +kernel) (by kernel_rfl) (by decide +kernel)
theorem ok_al : PartOk (Str.ofString "al") := word_part (by decide +kernel) (by decide +kernel) (by decide +kernel) (by decide +kernel) (by decide +kernel) (by kernel_rfl) (by decide +kernel)
theorem ok_Rc : PartOk (Str.ofString "Rc") := word_part (by decide +kernel) (by decide +kernel) (by decide +kernel) (by decide +kernel) (by decide +kernel) (by kernel_rfl) (by decide +kernel)
theorem fall_ok : ∀ p ∈ fall, PartOk p := by
  intro p hp
  unfold fall at hp
  simp only [List.mem_cons, List.not_mem_nil, or_false] at hp
  rcases hp with rfl | rfl | rfl | rfl | rfl | rfl | rfl | rfl | rfl | rfl | rfl | rfl | rfl | rfl | rfl | rfl | rfl | rfl | rfl | rfl | rfl
  · exact ok_pl
  · exact ok_p
  · exact ok_120
  · exact ok_12
  · exact ok_11
  · exact ok_10
  · exact ok_9
  · exact ok_1
  · exact ok_0
  · exact ok_rc
  · exact ok_RC
  · exact ok_c
  · exact ok_beta
  · exact ok_b
  · exact ok_alpha
  · exact ok_a
  · exact ok_dev
  · exact ok_x
  · exact ok_devel
  · exact ok_al
  · exact ok_Rc
end Mine
end
section
open PySem PySem.W PyProof.Rows PySem.Calls
set_option Elab.async false
set_option linter.unusedVariables false
set_option maxRecDepth 100000
namespace Mine
def pt (i : Nat) : Str := fall.getD i Str.empty
theorem pt_ok {i : Nat} (h : i < 21) : PartOk (pt i) := by
  unfold pt
  rw [List.getD_eq_getElem?_getD, List.getElem?_eq_getElem (show i < fall.length from h)]
  exact fall_ok _ (List.getElem_mem _)
def a1 (i : Nat) : Int := match atomsOf (pt i) with | [.i t, _] => t | _ => 0
def a2 (i : Nat) : Atom := match atomsOf (pt i) with | [_, v] => v | _ => .i 0
theorem atoms_pt : ∀ i, i < 21 → atomsOf (pt i) = [.i (a1 i), a2 i] := by decide +kernel
def okPair (a b : Nat) : Bool := if a1 a = a1 b then (a2 a).alike (a2 b) && decide (a2 a ≠ a2 b) && ((a2 a).lt (a2 b) == decide (b < a)) else decide (a1 a < a1 b) == decide (b < a)
theorem ok_pairs : ∀ a, a < 21 → ∀ b, b < 21 → a ≠ b → okPair a b = true := by decide +kernel
theorem alike_self : ∀ a, a < 21 → (a2 a).alike (a2 a) = true := by decide +kernel
def flat (is : List Nat) : List Atom := is.flatMap fun i => atomsOf (pt i)
theorem flat_map (is : List Nat) : (is.map pt).flatMap atomsOf = flat is := by unfold flat; rw [List.flatMap_map]
def ltI : List Nat → List Nat → Bool
  | [], [] => false
  | [], _ :: _ => true
  | _ :: _, [] => false
  | a :: as, b :: bs => if a = b then ltI as bs else decide (b < a)
theorem row_flat : ∀ is js : List Nat, (∀ i ∈ is, i < 21) → (∀ j ∈ js, j < 21) → Comp (flat is) (flat js) ∧ rowLt (flat is) (flat js) = ltI is js
  | [], [], _, _ => ⟨trivial, rfl⟩
  | [], b :: bs, _, hj => by
    unfold flat
    rw [List.flatMap_cons, atoms_pt b (hj b (.head _))]
    exact ⟨trivial, rfl⟩
  | a :: as, [], hi, _ => by
    unfold flat
    rw [List.flatMap_cons, atoms_pt a (hi a (.head _))]
    exact ⟨trivial, rfl⟩
  | a :: as, b :: bs, hi, hj => by
    have ha := hi a (.head _)
    have hb := hj b (.head _)
    obtain ⟨ih1, ih2⟩ := row_flat as bs (fun i h => hi i (.tail _ h)) (fun j h => hj j (.tail _ h))
    have e1 : flat (a :: as) = .i (a1 a) :: a2 a :: flat as := by unfold flat; rw [List.flatMap_cons, atoms_pt a ha]; rfl
    have e2 : flat (b :: bs) = .i (a1 b) :: a2 b :: flat bs := by unfold flat; rw [List.flatMap_cons, atoms_pt b hb]; rfl
    rw [e1, e2]
    by_cases hab : a = b
    · subst hab
      refine ⟨⟨rfl, fun _ => ⟨alike_self a ha, fun _ => ih1⟩⟩, ?_⟩
      simp only [rowLt, ltI, if_true]
      exact ih2
    · have hok := ok_pairs a ha b hb hab
      unfold okPair at hok
      simp only [ltI, if_neg hab]
      by_cases ht : a1 a = a1 b
      · rw [if_pos ht, Bool.and_eq_true, Bool.and_eq_true] at hok
        obtain ⟨⟨h1, h2⟩, h3⟩ := hok
        have h2' : a2 a ≠ a2 b := of_decide_eq_true h2
        refine ⟨⟨rfl, fun _ => ⟨h1, fun e => absurd e h2'⟩⟩, ?_⟩
        simp only [rowLt, ht, if_true, if_neg h2']
        exact eq_of_beq h3
      · rw [if_neg ht] at hok
        have hne : Atom.i (a1 a) ≠ Atom.i (a1 b) := fun e => ht (by injection e)
        refine ⟨⟨rfl, fun e => absurd e hne⟩, ?_⟩
        simp only [rowLt, if_neg hne, Atom.lt]
        exact eq_of_beq hok
theorem ltI_irr : ∀ a, ltI a a = false
  | [] => rfl
  | a :: as => by simp only [ltI, if_true]; exact ltI_irr as
theorem ltI_asym : ∀ a b, ltI a b = true → ltI b a = false
  | [], [], h => by cases h
  | [], _ :: _, _ => rfl
  | _ :: _, [], h => by cases h
  | a :: as, b :: bs, h => by
    by_cases e : a = b
    · subst e
      simp only [ltI, if_true] at h ⊢
      exact ltI_asym as bs h
    · simp only [ltI, if_neg e] at h
      have h' := of_decide_eq_true h
      simp only [ltI, if_neg (Ne.symm e)]
      exact decide_eq_false (by omega)
theorem ltI_app : ∀ a p x, ltI a p = true → ltI a (p ++ x) = true
  | [], [], x, h => by cases h
  | [], _ :: _, x, _ => rfl
  | _ :: _, [], x, h => by cases h
  | a :: as, b :: bs, x, h => by
    by_cases e : a = b
    · subst e
      simp only [List.cons_append, ltI, if_true] at h ⊢
      exact ltI_app as bs x h
    · simp only [List.cons_append, ltI, if_neg e] at h ⊢
      exact h
theorem ltI_ext : ∀ p (c : Nat), ltI p (p ++ [c]) = true
  | [], c => rfl
  | a :: p, c => by simp only [List.cons_append, ltI, if_true]; exact ltI_ext p c
theorem ltI_new : ∀ p a (c : Nat), ltI p a = true → (∀ x ∈ a, x < c) → ltI (p ++ [c]) a = true
  | [], [], c, h, _ => by cases h
  | [], b :: bs, c, _, hc => by
    have := hc b (.head _)
    simp only [List.nil_append, ltI, if_neg (show c ≠ b by omega)]
    exact decide_eq_true this
  | _ :: _, [], c, h, _ => by cases h
  | a :: p, b :: bs, c, h, hc => by
    by_cases e : a = b
    · subst e
      simp only [List.cons_append, ltI, if_true] at h ⊢
      exact ltI_new p bs c h fun x hx => hc x (.tail _ hx)
    · simp only [List.cons_append, ltI, if_neg e] at h ⊢
      exact h
theorem ltI_trans : ∀ a b c, ltI a b = true → ltI b c = true → ltI a c = true
  | [], [], _, h, _ => by cases h
  | [], _ :: _, [], _, h => by cases h
  | [], _ :: _, _ :: _, _, _ => rfl
  | _ :: _, [], _, h, _ => by cases h
  | _ :: _, _ :: _, [], _, h => by cases h
  | a :: as, b :: bs, c :: cs, h, k => by
    by_cases e : a = b
    · subst e
      by_cases e2 : a = c
      · subst e2
        simp only [ltI, if_true] at h k ⊢
        exact ltI_trans as bs cs h k
      · simp only [ltI, if_neg e2] at k ⊢
        exact k
    · simp only [ltI, if_neg e] at h
      have h' := of_decide_eq_true h
      by_cases e2 : b = c
      · subst e2
        simp only [ltI, if_neg e]
        exact decide_eq_true h'
      · simp only [ltI, if_neg e2] at k
        have k' := of_decide_eq_true k
        simp only [ltI, if_neg (show a ≠ c by omega)]
        exact decide_eq_true (by omega)
/-- rising -/
def Rise (its : List (List Nat)) : Prop := ∀ (i j : Nat) (a b : List Nat), i < j → its[i]? = some a → its[j]? = some b → ltI a b = true
/-- the place of a new one -/
theorem place {its : List (List Nat)} {spot c : Nat} {p : List Nat} (hr : Rise its) (hs : spot ≤ its.length) (hc : ∀ a ∈ its, ∀ x ∈ a, x < c) (hne : ∀ a ∈ its, a ≠ [])
    (hp : (spot = 0 ∧ p = []) ∨ (0 < spot ∧ its[spot - 1]? = some p)) : ∀ m a, its[m]? = some a → (m < spot → ltI a (p ++ [c]) = true) ∧ (spot ≤ m → ltI (p ++ [c]) a = true) := by
  intro m a ha
  have ham := List.mem_of_getElem? ha
  refine ⟨fun hm => ?_, fun hm => ?_⟩
  · rcases hp with ⟨h0, _⟩ | ⟨h0, hp⟩
    · omega
    · by_cases e : m = spot - 1
      · subst e
        rw [hp] at ha; cases ha
        exact ltI_ext p c
      · exact ltI_app a p [c] (hr m (spot - 1) a p (by omega) ha hp)
  · rcases hp with ⟨h0, rfl⟩ | ⟨h0, hp⟩
    · refine ltI_new [] a c ?_ (hc a ham)
      cases a with
      | nil => exact absurd rfl (hne _ ham)
      | cons x xs => rfl
    · exact ltI_new p a c (hr (spot - 1) m p a (by omega) hp ha) (hc a ham)
theorem getElem?_ins {α : Type} (l : List α) (k : Nat) (x : α) (hk : k ≤ l.length) (m : Nat) : (l.take k ++ x :: l.drop k)[m]? = if m < k then l[m]? else if m = k then some x else l[m - 1]? := by
  by_cases h1 : m < k
  · rw [if_pos h1, List.getElem?_append_left (by rw [List.length_take]; omega), List.getElem?_take_of_lt h1]
  · rw [if_neg h1, List.getElem?_append_right (by rw [List.length_take]; omega), List.length_take, Nat.min_eq_left hk]
    by_cases h2 : m = k
    · rw [if_pos h2, h2, Nat.sub_self]; rfl
    · rw [if_neg h2]
      obtain ⟨d, hd⟩ : ∃ d, m - k = d + 1 := ⟨m - k - 1, by omega⟩
      rw [hd, List.getElem?_cons_succ, List.getElem?_drop]
      congr 1; omega
theorem rise_ins {its : List (List Nat)} {spot : Nat} {q : List Nat} (hr : Rise its) (hs : spot ≤ its.length) (h : ∀ m a, its[m]? = some a → (m < spot → ltI a q = true) ∧ (spot ≤ m → ltI q a = true)) : Rise (its.take spot ++ q :: its.drop spot) := by
  intro i j a b hij ha hb
  rw [getElem?_ins _ _ _ hs] at ha hb
  by_cases h1 : i < spot
  · rw [if_pos h1] at ha
    by_cases h2 : j < spot
    · rw [if_pos h2] at hb; exact hr i j a b hij ha hb
    · rw [if_neg h2] at hb
      by_cases h3 : j = spot
      · rw [if_pos h3] at hb; cases hb; exact (h i a ha).1 h1
      · rw [if_neg h3] at hb; exact hr i (j - 1) a b (by omega) ha hb
  · rw [if_neg h1] at ha
    rw [if_neg (by omega), if_neg (by omega)] at hb
    by_cases h3 : i = spot
    · rw [if_pos h3] at ha; cases ha
      exact (h (j - 1) b hb).2 (by omega)
    · rw [if_neg h3] at ha
      exact hr (i - 1) (j - 1) a b (by omega) ha hb
theorem rise_del {its : List (List Nat)} (k : Nat) (hr : Rise its) : Rise (its.eraseIdx k) := by
  intro i j a b hij ha hb
  rw [List.getElem?_eraseIdx] at ha hb
  by_cases h1 : i < k
  · rw [if_pos h1] at ha
    by_cases h2 : j < k
    · rw [if_pos h2] at hb; exact hr i j a b hij ha hb
    · rw [if_neg h2] at hb; exact hr i (j + 1) a b (by omega) ha hb
  · rw [if_neg h1] at ha
    rw [if_neg (by omega)] at hb
    exact hr (i + 1) (j + 1) a b (by omega) ha hb
end Mine
end
section
open PySem PySem.W PyProof.Rows PySem.Calls
set_option Elab.async false
set_option linter.unusedVariables false
set_option maxRecDepth 100000
namespace Mine
section
variable {K : Frag} {prog : Program} {w : World} {A : PySem.Around} {s : Shared} {R : Result → Shared → Prop} {hb : Heap}
/-- a def of K that raises nothing, called from anywhere -/
theorem call_A {name qual : Str} {params : Arguments} {body : List Stmt} {scope : Scope} {dV kV doc pm cdv ct oc : Value} {an od : Option Addr} {osl : Array (Option Value)} {f : Addr} {args : Args} {binds : List (Str × Value)}
    (hk0 : ∀ b o, hb.get? b = some o → s.heap.get? b = some o) (X : K.In hb) (hlim : hb.NoLimit)
    (ho : K.lookup f = some ⟨oc, od, .func (fnOf name qual params body scope dV kV doc pm an cdv ct), osl⟩) (hcd : codeIn K cdv qual = true) (hroom : A.depth < recursionLimit)
    (hbind : BindsTo s (fnOf name qual params body scope dV kV doc pm an cdv ct) args binds) (hloc : (binds.all fun y => decide (scope.names.lookup y.1 = some .local)) = true)
    (h : ∀ L h₁, Fr s.heap L h₁ (fun y => binds.reverse.lookup y) → News s.heap L h₁ [] →
      wpAny (model prog w) (A.deeper (envOf qual scope L f cdv)) (execs body (envOf qual scope L f cdv))
        (fun fl s' => R (.ok (.ret (retOf fl))) s') NoE { s with heap := h₁, toks := s.toks + binds.length })
    (hco : scope.isCoroutine = false := by rfl) (hgen : scope.isGenerator = false := by rfl) (hk : scope.kind = .function := by rfl)
    (hcell : ∀ x ∈ scope.names, x.2 ≠ .cell := by decide) : codeAny (model prog w) A (.call (.ref f) args) R s := by
  have Xs := X.keeps hk0
  refine codeAny_call_def (fd := fnOf name qual params body scope dV kV doc pm an cdv ct) (body := body) (binds := binds) hroom (Xs _ _ ho) rfl (hlim.keeps hk0) (codeRec_of Xs hcd) rfl hbind hcell (locs hloc) (fun h₁ hns hk₁ => ?_) hco hgen hk
  exact wpAny_mono (h _ h₁ ⟨hns, fun b o e => hk₁ b o e, Nat.le_refl _⟩ fun p hp => by cases hp) (fun _ _ q => q) fun _ _ q => q.elim
end
set_option maxHeartbeats 8000000 in
theorem falling_at {w : World} {mg mb : Str → Option Value} {A : PySem.Around} {E : Value → Shared → Prop} {s : Shared} {hb : Heap} {L : Addr} {m : Str → Option Value} {news : List (Addr × Obj)} {Q : Value → Shared → Prop}
    (G : Gd w mg mb hb) (F : Fr hb L s.heap m) (N : News hb L s.heap news) (hroom : A.depth < recursionLimit)
    (k : ∀ h' tk' D vs, Fr hb L h' m → News hb L h' ((D, { cls := .type "tuple", data := .seq (List.toArray vs) }) :: news) → (∀ p ∈ news, p.1 ≠ D) → SV vs fall → Q (.ref D) { s with heap := h', toks := tk' }) :
    wpAny (model Challenge.rw_ph0088_01.row.prog w) A (call (.ref 87) []) Q E s := by
  have X := (G.keeps F.keep).X
  have T := (G.keeps F.keep).T
  revert X; k_fill; intro X
  refine wpAny_call (call_A (K := hd.heap_39 w.params) (binds := []) F.keep G.X G.T.nolimit rfl rfl hroom (BindsTo.of_eq rfl) rfl (fun L' h₁ F' N' => ?_))
  k_steps
  rename Fr _ _ _ _ => F2
  rename News _ _ _ _ => N2
  rename_i D h2 _
  have hD := N2 _ (.head _)
  have hLs : ∃ o, s.heap.get? L = some o := let ⟨o, _, _, h, _⟩ := F.ns; ⟨o, h⟩
  obtain ⟨vs, hD1, hvs⟩ : ∃ vs, h2.get? D = some { cls := .type "tuple", data := .seq (List.toArray vs) } ∧ SV vs fall := ⟨_, hD.1, by unfold fall; repeat constructor⟩
  refine k h2 _ D vs (F.keeps F2.keep) (fun p hp => ?_) (fun p hp e => ?_) hvs
  · rcases List.mem_cons.mp hp with rfl | hp
    · refine ⟨hD1, fun e => ?_, ?_⟩
      · obtain ⟨o, ho⟩ := hLs
        have : D = L := e
        subst this
        rw [hD.2.2] at ho; cases ho
      · cases q : hb.get? D with
        | none => rfl
        | some o => have := F.keep D o q; rw [hD.2.2] at this; cases this
    · exact ⟨F2.keep _ _ (N p hp).1, (N p hp).2⟩
  · have := (N p hp).1
    rw [e, hD.2.2] at this; cases this
end Mine
end
section
open PySem PySem.W PyProof.Rows PySem.Calls
set_option Elab.async false
set_option linter.unusedVariables false
set_option maxRecDepth 100000
namespace Mine
theorem SV.two {vs us : List Value} {ls : List Str} (h : SV vs ls) (k : SV us ls) (i : Nat) (v u : Value) (hv : vs[i]? = some v) (hu : us[i]? = some u) : ∃ x t t', v = .str x t ∧ u = .str x t' := by
  obtain ⟨x, hx, t, rfl⟩ := h.at hv
  obtain ⟨y, hy, t', rfl⟩ := k.at hu
  rw [hx] at hy; cases hy
  exact ⟨x, t, t', rfl, rfl⟩
/-- two lists of the same texts: != is False -/
theorem ne_same {prog : Program} {w : World} {A : PySem.Around} {E : Value → Shared → Prop} {s : Shared} {Q : Value → Shared → Prop} {l b : Addr} {vs us : List Value} {ls : List Str} (hl : s.heap.IsList l vs.toArray) (hb : s.heap.IsList b us.toArray) (hv : SV vs ls) (hu : SV us ls)
    (hun : A.units < cLine) (h : Q (.bool false) s) : wpAny (model prog w) A (compareOp .NotEq (.ref l) (.ref b)) Q E s := by
  show wpAny (model prog w) A (richCompare .NotEq (.ref l) (.ref b)) Q E s
  have e := SeqAt.RcNeAt.lists (e := fun _ => true) hl hb (by rw [List.size_toArray, List.size_toArray, hv.length, hu.length]) hun (fun j h1 h2 => by
    obtain ⟨x, t, t', e1, e2⟩ := hv.two hu j (vs.toArray[j]) (us.toArray[j]) (by rw [← List.getElem?_toArray]; exact Array.getElem?_eq_getElem h1) (by rw [← List.getElem?_toArray]; exact Array.getElem?_eq_getElem h2)
    rw [e1, e2]
    have := SeqAt.EqAt.str_str (A := A.in1) (s := s) x t x t'
    rw [beq_self_eq_true] at this
    exact this)
  refine e prog w E Q ?_
  rw [show ((List.range vs.toArray.size).all fun _ => true) = true by simp]
  exact h
theorem SV.take {vs : List Value} {ls : List Str} (h : SV vs ls) : ∀ k, SV (vs.take k) (ls.take k) := by
  induction h with
  | nil => intro k; simp; exact .nil
  | cons _ ih => intro k; cases k with
    | zero => exact .nil
    | succ k => exact .cons (ih k)
theorem SV.drop {vs : List Value} {ls : List Str} (h : SV vs ls) : ∀ k, SV (vs.drop k) (ls.drop k) := by
  induction h with
  | nil => intro k; simp; exact .nil
  | cons h' ih => intro k; cases k with
    | zero => exact .cons h'
    | succ k => exact ih k
theorem SV.ins {vs : List Value} {ls : List Str} (h : SV vs ls) (k : Nat) (x : Str) (t : Tok) : SV (vs.take k ++ .str x t :: vs.drop k) (ls.take k ++ x :: ls.drop k) := (h.take k).append (.cons (h.drop k))
theorem SV.erase {vs : List Value} {ls : List Str} (h : SV vs ls) (k : Nat) : SV (vs.eraseIdx k) (ls.eraseIdx k) := by
  rw [List.eraseIdx_eq_take_drop_succ, List.eraseIdx_eq_take_drop_succ]
  exact (h.take k).append (h.drop (k + 1))
theorem row_ins (a b x : Str) (ls : List Str) (k : Nat) (hk : k ≤ ls.length) : (a :: ls ++ [b]).take (k + 1) ++ x :: (a :: ls ++ [b]).drop (k + 1) = a :: (ls.take k ++ x :: ls.drop k) ++ [b] := by
  simp only [List.cons_append, List.take_succ_cons, List.drop_succ_cons, List.append_assoc]
  rw [List.take_append_of_le_length hk, List.drop_append_of_le_length hk]
theorem row_erase (a b : Str) (ls : List Str) (k : Nat) (hk : k < ls.length) : (a :: ls ++ [b]).eraseIdx (k + 1) = a :: ls.eraseIdx k ++ [b] := by
  simp only [List.cons_append, List.eraseIdx_cons_succ]
  rw [List.eraseIdx_append_of_lt_length hk]
theorem row_at (a b : Str) (ls : List Str) (m : Nat) (l : Str) (h1 : 1 ≤ m) (h2 : m < ls.length + 1) (h : (a :: ls ++ [b])[m]? = some l) : ls[m - 1]? = some l := by
  obtain ⟨m', rfl⟩ : ∃ m', m = m' + 1 := ⟨m - 1, by omega⟩
  rw [List.cons_append, List.getElem?_cons_succ, List.getElem?_append_left (by omega)] at h
  exact h
end Mine
end
section
open PySem PySem.W PyProof.Rows PySem.Calls
set_option Elab.async false
set_option linter.unusedVariables false
set_option maxRecDepth 100000
namespace Mine
def inc (x : Int) : Nat := 1 + ((x.fdiv 4).fmod 2).toNat
def need (xs : List Int) : Nat := (xs.map inc).sum
theorem inc_le (x : Int) : inc x ≤ 2 := by
  unfold inc
  have : (x.fdiv 4).fmod 2 < 2 := by rw [Int.fmod_eq_emod_of_nonneg _ (by decide)]; omega
  omega
theorem need_le : ∀ xs : List Int, need xs ≤ 2 * xs.length
  | [] => Nat.le_refl _
  | x :: xs => by
    have h1 := need_le xs
    have h2 := inc_le x
    unfold need at *
    simp only [List.map_cons, List.sum_cons, List.length_cons]; omega
theorem len_need : ∀ xs : List Int, xs.length ≤ need xs
  | [] => Nat.le_refl _
  | x :: xs => by
    have h1 := len_need xs
    have h2 : 1 ≤ inc x := by unfold inc; omega
    unfold need at *
    simp only [List.map_cons, List.sum_cons, List.length_cons]; omega
theorem need_app (a b : List Int) : need (a ++ b) = need a + need b := by unfold need; rw [List.map_append, List.sum_append]
theorem need_start (ns : List Int) : need (ns.take 8 ++ [1133, 1274, 8021]) ≤ 21 := by
  have h1 := need_le (ns.take 8)
  have h2 : (ns.take 8).length ≤ 8 := by rw [List.length_take]; omega
  have h3 : need [1133, 1274, 8021] = 5 := by decide
  rw [need_app, h3]; omega
theorem need_own : need [0, 157, 30, 5, 422, 273, 308, 123, 1133, 1274, 8021] ≤ 21 := by decide
theorem need_drop {xs : List Int} {i : Nat} {x : Int} (h : xs[i]? = some x) : need (xs.drop i) = inc x + need (xs.drop (i + 1)) := by
  have hi := (List.getElem?_eq_some_iff.mp h).1
  rw [List.drop_eq_getElem_cons hi]
  have : xs[i] = x := (List.getElem?_eq_some_iff.mp h).2
  rw [this]; unfold need; simp

/-- the items' rows of parts stand in the ledger -/
def Its (pl : List (Addr × Obj)) (rs : List Value) (its : List (List Nat)) : Prop :=
  rs.length = its.length ∧ ∀ (j : Nat) (it : List Nat), its[j]? = some it → ∃ a vals n, rs[j]? = some (.ref a) ∧ (a, W.listOf (List.toArray vals) n) ∈ pl ∧ SV vals (it.map pt)
def Labs (lbs : List Str) (its : List (List Nat)) : Prop :=
  lbs.length = its.length ∧ ∀ (j : Nat) (it : List Nat) (l : Str), its[j]? = some it → lbs[j]? = some l → LabOk l ∧ keyOf l = flat it
structure ItemsOk (its : List (List Nat)) (st : Int) (i : Nat) : Prop where
  rise : Rise its
  ne : ∀ a ∈ its, a ≠ []
  short : ∀ a ∈ its, a.length ≤ i
  few : its.length ≤ i
  below : ∀ a ∈ its, ∀ x ∈ a, (x : Int) ≤ st
abbrev tupO (fs : List Value) : Obj := { cls := .type "tuple", data := .seq (List.toArray fs) }
abbrev ledg (aF aI aL aR : Addr) (fs rs lvs rvs : List Value) (n1 n2 n3 : Nat) (pl : List (Addr × Obj)) : List (Addr × Obj) :=
  (aR, W.listOf (List.toArray rvs) n3) :: (aL, W.listOf (List.toArray lvs) n2) :: (aI, W.listOf (List.toArray rs) n1) :: (aF, tupO fs) :: pl
abbrev names01 (aF aI aL aR : Addr) (st : Int) (ts : Tok) : List (Str × Value) :=
  [(Str.ofString "falling", .ref aF), (Str.ofString "step", .int st ts), (Str.ofString "items", .ref aI), (Str.ofString "labels", .ref aL), (Str.ofString "row", .ref aR)]
def rowOf (lbs : List Str) : List Str := Str.ofString "pl.pl" :: lbs ++ [Str.ofString "A"]
def J01 (Bd aF aI aL aR : Addr) (fs : List Value) (xs : List Int) (i : Nat) (m' : Str → Option Value) (nx : List (Addr × Obj)) : Prop :=
  ∃ its lbs rs lvs rvs n1 n2 n3 pl st ts, nx = ledg aF aI aL aR fs rs lvs rvs n1 n2 n3 pl ∧ (∀ p ∈ pl, @LT.lt Nat _ Bd p.1) ∧ Its pl rs its ∧ SV lvs lbs ∧ SV rvs (rowOf lbs) ∧ Labs lbs its ∧ ItemsOk its st i ∧ (-1 : Int) ≤ st ∧ st + (need (xs.drop i) : Nat) ≤ 20 ∧ Pins m' (names01 aF aI aL aR st ts)
theorem nw_cons {h₀ h : Heap} {L : Addr} {p : Addr × Obj} {news rest : List (Addr × Obj)} (N : News h₀ L h news) (a : p ∈ news) (r : News h₀ L h rest) : News h₀ L h (p :: rest) := fun q hq =>
  (List.mem_cons.mp hq).elim (fun e => e ▸ N p a) (r q)
theorem nw_nil {h₀ h : Heap} {L : Addr} : News h₀ L h [] := fun _ h => by cases h
theorem ints_at {ws : List Value} {xs : List Int} (h : IntsAre ws xs) : ∀ {i : Nat} {v : Value}, ws[i]? = some v → ∃ x t, v = .int x t ∧ xs[i]? = some x := by
  induction h with
  | nil => intro i v h; simp at h
  | cons n t _ ih => intro i v h; cases i with
    | zero => simp at h; exact ⟨n, t, h.symm, rfl⟩
    | succ i => simp only [List.getElem?_cons_succ] at h ⊢; exact ih h
theorem ints_len {ws : List Value} {xs : List Int} (h : IntsAre ws xs) : ws.length = xs.length := by
  induction h with
  | nil => rfl
  | cons n t _ ih => simp [ih]
theorem j01_start {Bd aF aI aL aR : Addr} {fs : List Value} {xs : List Int} {m' : Str → Option Value} {t0 t1 t2 : Tok} (hneed : need xs ≤ 21) (P : Pins m' (names01 aF aI aL aR (-1) t0)) :
    J01 Bd aF aI aL aR fs xs 0 m' (ledg aF aI aL aR fs [] [] [.str (Str.ofString "pl.pl") t1, .str (Str.ofString "A") t2] 0 0 0 []) := by
  refine ⟨[], [], [], [], _, 0, 0, 0, [], -1, t0, rfl, (fun p hp => by cases hp), ⟨rfl, fun j it h => by simp at h⟩, .nil, .cons (.cons .nil), ⟨rfl, fun j it l h => by simp at h⟩, ?_, Int.le_refl _, ?_, P⟩
  · exact ⟨fun i j a b _ h => by simp at h, fun a h => (List.not_mem_nil h).elim, fun a h => (List.not_mem_nil h).elim, Nat.zero_le _, fun a h => (List.not_mem_nil h).elim⟩
  · rw [List.drop_zero]; omega
def Mid01 (s : Shared) (L : Addr) (own : List (Addr × Obj)) (Bd aF aI aL aR : Addr) (fs : List Value) (xs : List Int) (i : Nat) (f : Flow) (s' : Shared) : Prop :=
  f = .next ∧ ∃ h tk m' nx, s' = { s with heap := h, toks := tk } ∧ Fr s.heap L h m' ∧ News s.heap L h (own ++ nx) ∧ J01 Bd aF aI aL aR fs xs (i + 1) m' nx
def Test01 (s : Shared) (h6 : Heap) (n : Nat) (b : Bool) (s₂ : Shared) : Prop := (∃ tk, s₂ = { s with heap := h6, toks := tk }) ∧ (b = true → 0 < n)
def Start01 (s : Shared) (L aF aI aL aR : Addr) (fs : List Value) (t0 : Tok) (v : Value) (s₁ : Shared) : Prop :=
  ∃ D ws xs h tk m' t1 t2, v = .ref D ∧ s₁ = { s with heap := h, toks := tk } ∧ Fr s.heap L h m' ∧
    News s.heap L h [(D, W.listOf (List.toArray ws) 0), (aR, W.listOf #[.str (Str.ofString "pl.pl") t1, .str (Str.ofString "A") t2] 0), (aL, W.listOf #[] 0), (aI, W.listOf #[] 0), (aF, tupO fs)] ∧
    (@LT.lt Nat _ aR D) ∧ IntsAre ws xs ∧ need xs ≤ 21 ∧ Pins m' (names01 aF aI aL aR (-1) t0)
end Mine
end
section
open PySem PySem.W PyProof.Rows PySem.Calls
set_option Elab.async false
set_option linter.unusedVariables false
set_option maxRecDepth 100000
namespace Mine
theorem up_nil {frs : List (Addr × Obj)} (h : TI.SameUp [] frs) : frs = [] := by cases frs with | nil => rfl | cons p l => exact h.elim
section
variable {w : World} {mg mb : Str → Option Value} {E : Value → Shared → Prop} {s : Shared} {hb : Heap} {news : List (Addr × Obj)} {L g : Addr} {m : Str → Option Value} {name : Str} {scope : Scope} {cd : Value} {Q : Value → Shared → Prop}
theorem cv_law {x : Str} {tk : Tok} (G : Gd w mg mb hb) (F : Fr hb L s.heap m) (N : News hb L s.heap news) (hx : LabOk x)
    (k : ∀ h' tk' a vs n, Fr hb L h' m → News hb L h' ((a, W.listOf (List.toArray vs) n) :: news) → (∀ p ∈ news, p.1 ≠ a) → AV vs (keyOf x) → Q (.ref a) { s with heap := h', toks := tk' })
    (hk : scope.kind = .function := by rfl) :
    wpC (model Challenge.rw_ph0088_01.row.prog w) (callerA.deeper (envOf name scope L g cd)) (call (.ref 44) [.str x tk]) Q E s := by
  refine cv_at (frs := []) (news := news) (outer := []) G (fun _ _ e => e) F (by rw [List.append_nil]; exact N) trivial (fun p _ h => by cases h) rfl (by decide +kernel) rfl hx ?_ hk
  intro h' tk' frs' a vs n SU _ _ F' N' hne hav
  rw [up_nil SU, List.append_nil] at N' hne
  exact k h' tk' a vs n F' N' hne hav
theorem sp_law {a : Addr} {vs : List Value} {n : Nat} {ps : List Str} {st : Nat} {ts : Tok} (G : Gd w mg mb hb) (F : Fr hb L s.heap m) (N : News hb L s.heap news) (ha : (a, W.listOf vs.toArray n) ∈ news) (hvs : SV vs ps)
    (hlen : ps.length ≤ 100) (hps : ∀ p ∈ ps, p.cps.size ≠ 0 ∧ p.cps.size ≤ 10) (hst : st ≤ 100)
    (k : ∀ h' tk' t, Fr hb L h' m → News hb L h' news → Q (.str (spellTo ps st ps.length) t) { s with heap := h', toks := tk' })
    (hk : scope.kind = .function := by rfl) :
    wpC (model Challenge.rw_ph0088_01.row.prog w) (callerA.deeper (envOf name scope L g cd)) (call (.ref 101) [.ref a, .int (st : Int) ts]) Q E s := by
  refine at_C (h₀ := hb) (frs := []) (news := news) (outer := []) (fun v _ => ∃ t, v = .str (spellTo ps st ps.length) t) (fun _ _ e => e) F (by rw [List.append_nil]; exact N) trivial (fun p _ h => by cases h) rfl (fun oL B' hA' => ?_) ?_ hk
  · refine sp_spec G B' hA' (deeper_room (by decide +kernel)) rfl (N _ ha).1 hvs ?_ hlen hps hst ?_
    · exact fun hm => (N _ ha).2.1 (List.mem_singleton.mp hm)
    · intro h' tk' frs' t K
      exact ⟨_, h', tk', frs', rfl, rfl, K, t, rfl⟩
  · rintro v h' tk' frs' SU _ _ F' N' ⟨t, rfl⟩
    rw [up_nil SU, List.append_nil] at N'
    exact k h' tk' t F' N'

theorem bl_law {a x : Addr} {vs us : List Value} {n n' : Nat} {ls : List Str} {ks : List Atom} {lo hi r : Nat} {tl th : Tok} (G : Gd w mg mb hb) (F : Fr hb L s.heap m) (N : News hb L s.heap news) (ha : (a, W.listOf vs.toArray n) ∈ news) (hvs : SV vs ls)
    (hx : (x, W.listOf us.toArray n') ∈ news) (hus : AV us ks) (hok : ∀ l ∈ ls, LabOk l) (hloh : lo ≤ r) (hrh : r ≤ hi) (hhi : hi ≤ ls.length) (hlen : ls.length ≤ 1000)
    (hcmp : ∀ m l, lo ≤ m → m < hi → ls[m]? = some l → Comp (keyOf l) ks ∧ rowLt (keyOf l) ks = decide (m < r))
    (k : ∀ h' tk' t, Fr hb L h' m → News hb L h' news → Q (.int (r : Int) t) { s with heap := h', toks := tk' })
    (hk : scope.kind = .function := by rfl) :
    wpC (model Challenge.rw_ph0088_01.row.prog w) (callerA.deeper (envOf name scope L g cd)) (call (.ref 80) [.ref a, .ref x, .int (lo : Int) tl, .int (hi : Int) th] [(Str.ofString "key", .ref 44)]) Q E s := by
  refine at_C (h₀ := hb) (frs := []) (news := news) (outer := []) (fun v _ => ∃ t, v = .int (r : Int) t) (fun _ _ e => e) F (by rw [List.append_nil]; exact N) trivial (fun p _ h => by cases h) rfl (fun oL B' hA' => ?_) ?_ hk
  · refine bl_spec G B' hA' (deeper_room (by decide +kernel)) (by show callerA.units + _ + 100 < cLine; decide +kernel) rfl (N _ ha).1 hvs (N _ hx).1 hus hok ?_ ?_ hloh hrh hhi hlen hcmp ?_
    · exact fun hm => (N _ ha).2.1 (List.mem_singleton.mp hm)
    · exact fun hm => (N _ hx).2.1 (List.mem_singleton.mp hm)
    · intro h' tk' frs' t K
      exact ⟨_, h', tk', frs', rfl, rfl, K, t, rfl⟩
  · rintro v h' tk' frs' SU _ _ F' N' ⟨t, rfl⟩
    rw [up_nil SU, List.append_nil] at N'
    exact k h' tk' t F' N'

theorem bl2_law {a x : Addr} {vs us : List Value} {n n' : Nat} {ls : List Str} {ks : List Atom} {r : Nat} (G : Gd w mg mb hb) (F : Fr hb L s.heap m) (N : News hb L s.heap news) (ha : (a, W.listOf vs.toArray n) ∈ news) (hvs : SV vs ls)
    (hx : (x, W.listOf us.toArray n') ∈ news) (hus : AV us ks) (hok : ∀ l ∈ ls, LabOk l) (hrh : r ≤ ls.length) (hlen : ls.length ≤ 1000)
    (hcmp : ∀ m l, 0 ≤ m → m < ls.length → ls[m]? = some l → Comp (keyOf l) ks ∧ rowLt (keyOf l) ks = decide (m < r))
    (k : ∀ h' tk' t, Fr hb L h' m → News hb L h' news → Q (.int (r : Int) t) { s with heap := h', toks := tk' })
    (hk : scope.kind = .function := by rfl) :
    wpC (model Challenge.rw_ph0088_01.row.prog w) (callerA.deeper (envOf name scope L g cd)) (call (.ref 80) [.ref a, .ref x] [(Str.ofString "key", .ref 44)]) Q E s := by
  refine at_C (h₀ := hb) (frs := []) (news := news) (outer := []) (fun v _ => ∃ t, v = .int (r : Int) t) (fun _ _ e => e) F (by rw [List.append_nil]; exact N) trivial (fun p _ h => by cases h) rfl (fun oL B' hA' => ?_) ?_ hk
  · refine bl2_spec G B' hA' (deeper_room (by decide +kernel)) (by show callerA.units + _ + 100 < cLine; decide +kernel) rfl (N _ ha).1 hvs (N _ hx).1 hus hok ?_ ?_ hrh hlen hcmp ?_
    · exact fun hm => (N _ ha).2.1 (List.mem_singleton.mp hm)
    · exact fun hm => (N _ hx).2.1 (List.mem_singleton.mp hm)
    · intro h' tk' frs' t K
      exact ⟨_, h', tk', frs', rfl, rfl, K, t, rfl⟩
  · rintro v h' tk' frs' SU _ _ F' N' ⟨t, rfl⟩
    rw [up_nil SU, List.append_nil] at N'
    exact k h' tk' t F' N'

theorem br_law {a x : Addr} {vs us : List Value} {n n' : Nat} {ls : List Str} {ks : List Atom} {lo hi r : Nat} {tl th : Tok} (G : Gd w mg mb hb) (F : Fr hb L s.heap m) (N : News hb L s.heap news) (ha : (a, W.listOf vs.toArray n) ∈ news) (hvs : SV vs ls)
    (hx : (x, W.listOf us.toArray n') ∈ news) (hus : AV us ks) (hok : ∀ l ∈ ls, LabOk l) (hloh : lo ≤ r) (hrh : r ≤ hi) (hhi : hi ≤ ls.length) (hlen : ls.length ≤ 1000)
    (hcmp : ∀ m l, lo ≤ m → m < hi → ls[m]? = some l → Comp ks (keyOf l) ∧ rowLt ks (keyOf l) = decide (r ≤ m))
    (k : ∀ h' tk' t, Fr hb L h' m → News hb L h' news → Q (.int (r : Int) t) { s with heap := h', toks := tk' })
    (hk : scope.kind = .function := by rfl) :
    wpC (model Challenge.rw_ph0088_01.row.prog w) (callerA.deeper (envOf name scope L g cd)) (call (.ref 62) [.ref a, .ref x, .int (lo : Int) tl, .int (hi : Int) th] [(Str.ofString "key", .ref 44)]) Q E s := by
  refine at_C (h₀ := hb) (frs := []) (news := news) (outer := []) (fun v _ => ∃ t, v = .int (r : Int) t) (fun _ _ e => e) F (by rw [List.append_nil]; exact N) trivial (fun p _ h => by cases h) rfl (fun oL B' hA' => ?_) ?_ hk
  · refine br_spec G B' hA' (deeper_room (by decide +kernel)) (by show callerA.units + _ + 100 < cLine; decide +kernel) rfl (N _ ha).1 hvs (N _ hx).1 hus hok ?_ ?_ hloh hrh hhi hlen hcmp ?_
    · exact fun hm => (N _ ha).2.1 (List.mem_singleton.mp hm)
    · exact fun hm => (N _ hx).2.1 (List.mem_singleton.mp hm)
    · intro h' tk' frs' t K
      exact ⟨_, h', tk', frs', rfl, rfl, K, t, rfl⟩
  · rintro v h' tk' frs' SU _ _ F' N' ⟨t, rfl⟩
    rw [up_nil SU, List.append_nil] at N'
    exact k h' tk' t F' N'

theorem br2_law {a x : Addr} {vs us : List Value} {n n' : Nat} {ls : List Str} {ks : List Atom} {r : Nat} (G : Gd w mg mb hb) (F : Fr hb L s.heap m) (N : News hb L s.heap news) (ha : (a, W.listOf vs.toArray n) ∈ news) (hvs : SV vs ls)
    (hx : (x, W.listOf us.toArray n') ∈ news) (hus : AV us ks) (hok : ∀ l ∈ ls, LabOk l) (hrh : r ≤ ls.length) (hlen : ls.length ≤ 1000)
    (hcmp : ∀ m l, 0 ≤ m → m < ls.length → ls[m]? = some l → Comp ks (keyOf l) ∧ rowLt ks (keyOf l) = decide (r ≤ m))
    (k : ∀ h' tk' t, Fr hb L h' m → News hb L h' news → Q (.int (r : Int) t) { s with heap := h', toks := tk' })
    (hk : scope.kind = .function := by rfl) :
    wpC (model Challenge.rw_ph0088_01.row.prog w) (callerA.deeper (envOf name scope L g cd)) (call (.ref 62) [.ref a, .ref x] [(Str.ofString "key", .ref 44)]) Q E s := by
  refine at_C (h₀ := hb) (frs := []) (news := news) (outer := []) (fun v _ => ∃ t, v = .int (r : Int) t) (fun _ _ e => e) F (by rw [List.append_nil]; exact N) trivial (fun p _ h => by cases h) rfl (fun oL B' hA' => ?_) ?_ hk
  · refine br2_spec G B' hA' (deeper_room (by decide +kernel)) (by show callerA.units + _ + 100 < cLine; decide +kernel) rfl (N _ ha).1 hvs (N _ hx).1 hus hok ?_ ?_ hrh hlen hcmp ?_
    · exact fun hm => (N _ ha).2.1 (List.mem_singleton.mp hm)
    · exact fun hm => (N _ hx).2.1 (List.mem_singleton.mp hm)
    · intro h' tk' frs' t K
      exact ⟨_, h', tk', frs', rfl, rfl, K, t, rfl⟩
  · rintro v h' tk' frs' SU _ _ F' N' ⟨t, rfl⟩
    rw [up_nil SU, List.append_nil] at N'
    exact k h' tk' t F' N'

theorem ir_law {a : Addr} {vs : List Value} {n : Nat} {ls : List Str} {x : Str} {tx : Tok} {lo hi r : Nat} {tl th : Tok} (G : Gd w mg mb hb) (F : Fr hb L s.heap m) (N : News hb L s.heap ((a, W.listOf vs.toArray n) :: news)) (hna : ∀ p ∈ news, p.1 ≠ a) (hvs : SV vs ls)
    (hok : ∀ l ∈ ls, LabOk l) (hx : LabOk x) (hloh : lo ≤ r) (hrh : r ≤ hi) (hhi : hi ≤ ls.length) (hlen : ls.length ≤ 1000)
    (hcmp : ∀ m l, lo ≤ m → m < hi → ls[m]? = some l → Comp (keyOf x) (keyOf l) ∧ rowLt (keyOf x) (keyOf l) = decide (r ≤ m))
    (k : ∀ h' tk' n', Fr hb L h' m → News hb L h' ((a, W.listOf (List.toArray (vs.take r ++ .str x tx :: vs.drop r)) n') :: news) → Q .none { s with heap := h', toks := tk' })
    (hk : scope.kind = .function := by rfl) :
    wpC (model Challenge.rw_ph0088_01.row.prog w) (callerA.deeper (envOf name scope L g cd)) (call (.ref 53) [.ref a, .str x tx, .int (lo : Int) tl, .int (hi : Int) th] [(Str.ofString "key", .ref 44)]) Q E s := by
  refine at_Cy (h₀ := hb) (frs := []) (news := news) (outer := []) (fun v us => v = .none ∧ us = vs.take r ++ .str x tx :: vs.drop r) (fun _ _ e => e) F (by rw [List.append_nil]; exact N) trivial (fun p _ h => by cases h) hna rfl (fun oL B' haf hA' => ?_) ?_ hk
  · refine ir_spec G B' hA' (deeper_room (by decide +kernel)) (by show callerA.units + _ + 300 < cLine; decide +kernel) rfl (N _ (.head _)).1 hvs hok hx haf (N _ (.head _)).2.2 hloh hrh hhi hlen hcmp ?_
    intro h' tk' frs' n' K hg
    exact ⟨_, h', tk', frs', _, n', rfl, rfl, K, hg, rfl, rfl⟩
  · rintro v h' tk' frs' us n' SU _ _ F' N' ⟨rfl, rfl⟩
    rw [up_nil SU, List.append_nil] at N'
    exact k h' tk' n' F' N'

theorem il_law {a : Addr} {vs : List Value} {n : Nat} {ls : List Str} {x : Str} {tx : Tok} {lo hi r : Nat} {tl th : Tok} (G : Gd w mg mb hb) (F : Fr hb L s.heap m) (N : News hb L s.heap ((a, W.listOf vs.toArray n) :: news)) (hna : ∀ p ∈ news, p.1 ≠ a) (hvs : SV vs ls)
    (hok : ∀ l ∈ ls, LabOk l) (hx : LabOk x) (hloh : lo ≤ r) (hrh : r ≤ hi) (hhi : hi ≤ ls.length) (hlen : ls.length ≤ 1000)
    (hcmp : ∀ m l, lo ≤ m → m < hi → ls[m]? = some l → Comp (keyOf l) (keyOf x) ∧ rowLt (keyOf l) (keyOf x) = decide (m < r))
    (k : ∀ h' tk' n', Fr hb L h' m → News hb L h' ((a, W.listOf (List.toArray (vs.take r ++ .str x tx :: vs.drop r)) n') :: news) → Q .none { s with heap := h', toks := tk' })
    (hk : scope.kind = .function := by rfl) :
    wpC (model Challenge.rw_ph0088_01.row.prog w) (callerA.deeper (envOf name scope L g cd)) (call (.ref 71) [.ref a, .str x tx, .int (lo : Int) tl, .int (hi : Int) th] [(Str.ofString "key", .ref 44)]) Q E s := by
  refine at_Cy (h₀ := hb) (frs := []) (news := news) (outer := []) (fun v us => v = .none ∧ us = vs.take r ++ .str x tx :: vs.drop r) (fun _ _ e => e) F (by rw [List.append_nil]; exact N) trivial (fun p _ h => by cases h) hna rfl (fun oL B' haf hA' => ?_) ?_ hk
  · refine il_spec G B' hA' (deeper_room (by decide +kernel)) (by show callerA.units + _ + 300 < cLine; decide +kernel) rfl (N _ (.head _)).1 hvs hok hx haf (N _ (.head _)).2.2 hloh hrh hhi hlen hcmp ?_
    intro h' tk' frs' n' K hg
    exact ⟨_, h', tk', frs', _, n', rfl, rfl, K, hg, rfl, rfl⟩
  · rintro v h' tk' frs' us n' SU _ _ F' N' ⟨rfl, rfl⟩
    rw [up_nil SU, List.append_nil] at N'
    exact k h' tk' n' F' N'

end
end Mine
end
section
open PySem PySem.W PyProof.Rows PySem.Calls
set_option Elab.async false
set_option linter.unusedVariables false
set_option maxRecDepth 100000
namespace Mine
theorem lab_pl : LabOk (Str.ofString "pl.pl") := by
  refine ⟨by decide +kernel, ?_⟩
  have e : toks (Str.ofString "pl.pl").cps (Str.ofString "pl.pl").cps.size 0 = [Str.ofString "pl", Str.ofString ".", Str.ofString "pl"] := by decide +kernel
  rw [e]
  have h1 : TokOk (Str.ofString "pl") := (ok_pl.word (by decide +kernel)).2
  have h2 : TokOk (Str.ofString ".") := .inl (by decide +kernel)
  intro v hv
  simp only [List.mem_cons, List.not_mem_nil, or_false] at hv
  rcases hv with rfl | rfl | rfl
  · exact h1
  · exact h2
  · exact h1
theorem lab_A : LabOk (Str.ofString "A") := by
  refine ⟨by decide +kernel, ?_⟩
  have e : toks (Str.ofString "A").cps (Str.ofString "A").cps.size 0 = [Str.ofString "A"] := by decide +kernel
  rw [e]
  intro v hv
  rw [List.mem_singleton.mp hv]
  exact .inr (.inr ⟨by decide +kernel, by decide +kernel, by kernel_rfl, by decide +kernel⟩)
theorem row_lab {lbs : List Str} (h : ∀ l ∈ lbs, LabOk l) : ∀ l ∈ rowOf lbs, LabOk l := by
  intro l hl
  unfold rowOf at hl
  simp only [List.cons_append, List.mem_cons, List.mem_append, List.not_mem_nil, or_false] at hl
  rcases hl with rfl | hl | rfl
  · exact lab_pl
  · exact h l hl
  · exact lab_A
theorem Labs.all {lbs : List Str} {its : List (List Nat)} (h : Labs lbs its) : ∀ l ∈ lbs, LabOk l := by
  intro l hl
  obtain ⟨j, hj⟩ := List.getElem?_of_mem hl
  have hlt := (List.getElem?_eq_some_iff.mp hj).1
  rw [h.1] at hlt
  exact (h.2 j _ l (List.getElem?_eq_getElem hlt) hj).1
theorem Labs.at {lbs : List Str} {its : List (List Nat)} (h : Labs lbs its) {j : Nat} {l : Str} (hj : lbs[j]? = some l) : ∃ it, its[j]? = some it ∧ keyOf l = flat it := by
  have hlt := (List.getElem?_eq_some_iff.mp hj).1
  rw [h.1] at hlt
  exact ⟨_, List.getElem?_eq_getElem hlt, (h.2 j _ l (List.getElem?_eq_getElem hlt) hj).2⟩
theorem ItemsOk.lt {its : List (List Nat)} {st : Int} {i : Nat} (h : ItemsOk its st i) (hs : st ≤ 20) : ∀ a ∈ its, ∀ x ∈ a, x < 21 := fun a ha x hx => by
  have := h.below a ha x hx; omega
/-- one that is there: how the others stand to it -/
theorem at_l {lbs : List Str} {its : List (List Nat)} {st : Int} {i spot : Nat} {l0 : Str} (hlab : Labs lbs its) (hok : ItemsOk its st i) (hs : st ≤ 20) (hl : lbs[spot]? = some l0) {m : Nat} {l : Str} (hm : lbs[m]? = some l) :
    (Comp (keyOf l) (keyOf l0) ∧ rowLt (keyOf l) (keyOf l0) = decide (m < spot)) ∧ (Comp (keyOf l0) (keyOf l) ∧ rowLt (keyOf l0) (keyOf l) = decide (spot < m)) := by
  obtain ⟨it, hi, e⟩ := hlab.at hm
  obtain ⟨it0, hi0, e0⟩ := hlab.at hl
  have b := hok.lt hs it (List.mem_of_getElem? hi)
  have b0 := hok.lt hs it0 (List.mem_of_getElem? hi0)
  rw [e, e0]
  obtain ⟨c1, r1⟩ := row_flat it it0 b b0
  obtain ⟨c2, r2⟩ := row_flat it0 it b0 b
  rw [r1, r2]
  refine ⟨⟨c1, ?_⟩, ⟨c2, ?_⟩⟩
  · by_cases h1 : m < spot
    · rw [decide_eq_true h1]; exact hok.rise m spot it it0 h1 hi hi0
    · rw [decide_eq_false h1]
      by_cases h2 : m = spot
      · subst h2; rw [hi] at hi0; cases hi0; exact ltI_irr _
      · exact ltI_asym _ _ (hok.rise spot m it0 it (by omega) hi0 hi)
  · by_cases h1 : spot < m
    · rw [decide_eq_true h1]; exact hok.rise spot m it0 it h1 hi0 hi
    · rw [decide_eq_false h1]
      by_cases h2 : m = spot
      · subst h2; rw [hi] at hi0; cases hi0; exact ltI_irr _
      · exact ltI_asym _ _ (hok.rise m spot it it0 (by omega) hi hi0)
theorem out_l {lbs : List Str} {its : List (List Nat)} {st : Int} {i spot : Nat} {l0 : Str} (hlab : Labs lbs its) (hok : ItemsOk its st i) (hs : st ≤ 20) (hl : lbs[spot]? = some l0) :
    ∀ m l, 1 ≤ m → m < lbs.length + 1 → (rowOf lbs)[m]? = some l → Comp (keyOf l) (keyOf l0) ∧ rowLt (keyOf l) (keyOf l0) = decide (m < spot + 1) := by
  intro m l h1 h2 h
  obtain ⟨c, r⟩ := (at_l hlab hok hs hl (row_at _ _ _ _ _ h1 h2 h)).1
  refine ⟨c, r.trans ?_⟩
  exact decide_eq_decide.mpr (by omega)
theorem out_r {lbs : List Str} {its : List (List Nat)} {st : Int} {i spot : Nat} {l0 : Str} (hlab : Labs lbs its) (hok : ItemsOk its st i) (hs : st ≤ 20) (hl : lbs[spot]? = some l0) :
    ∀ m l, 1 ≤ m → m < lbs.length + 1 → (rowOf lbs)[m]? = some l → Comp (keyOf l0) (keyOf l) ∧ rowLt (keyOf l0) (keyOf l) = decide (spot + 2 ≤ m) := by
  intro m l h1 h2 h
  obtain ⟨c, r⟩ := (at_l hlab hok hs hl (row_at _ _ _ _ _ h1 h2 h)).2
  refine ⟨c, r.trans ?_⟩
  exact decide_eq_decide.mpr (by omega)
/-- a new one -/
theorem in_at {lbs : List Str} {its : List (List Nat)} {st : Int} {i spot : Nat} {l0 : Str} {q : List Nat} (hlab : Labs lbs its) (hok : ItemsOk its st i) (hs : st ≤ 20) (hq : keyOf l0 = flat q) (hq2 : ∀ x ∈ q, x < 21)
    (H : ∀ m a, its[m]? = some a → (m < spot → ltI a q = true) ∧ (spot ≤ m → ltI q a = true)) {m : Nat} {l : Str} (hm : lbs[m]? = some l) :
    (Comp (keyOf l) (keyOf l0) ∧ rowLt (keyOf l) (keyOf l0) = decide (m < spot)) ∧ (Comp (keyOf l0) (keyOf l) ∧ rowLt (keyOf l0) (keyOf l) = decide (spot ≤ m)) := by
  obtain ⟨it, hi, e⟩ := hlab.at hm
  have b := hok.lt hs it (List.mem_of_getElem? hi)
  rw [e, hq]
  obtain ⟨c1, r1⟩ := row_flat it q b hq2
  obtain ⟨c2, r2⟩ := row_flat q it hq2 b
  rw [r1, r2]
  obtain ⟨H1, H2⟩ := H m it hi
  by_cases h1 : m < spot
  · rw [decide_eq_true h1, decide_eq_false (by omega)]
    exact ⟨⟨c1, H1 h1⟩, c2, ltI_asym _ _ (H1 h1)⟩
  · rw [decide_eq_false h1, decide_eq_true (by omega)]
    exact ⟨⟨c1, ltI_asym _ _ (H2 (by omega))⟩, c2, H2 (by omega)⟩
theorem in_row {lbs : List Str} {its : List (List Nat)} {st : Int} {i spot : Nat} {l0 : Str} {q : List Nat} (hlab : Labs lbs its) (hok : ItemsOk its st i) (hs : st ≤ 20) (hq : keyOf l0 = flat q) (hq2 : ∀ x ∈ q, x < 21)
    (H : ∀ m a, its[m]? = some a → (m < spot → ltI a q = true) ∧ (spot ≤ m → ltI q a = true)) : ∀ m l, 1 ≤ m → m < lbs.length + 1 → (rowOf lbs)[m]? = some l →
    (Comp (keyOf l) (keyOf l0) ∧ rowLt (keyOf l) (keyOf l0) = decide (m < spot + 1)) ∧ (Comp (keyOf l0) (keyOf l) ∧ rowLt (keyOf l0) (keyOf l) = decide (spot + 1 ≤ m)) := by
  intro m l h1 h2 h
  obtain ⟨⟨c1, r1⟩, c2, r2⟩ := in_at hlab hok hs hq hq2 H (row_at _ _ _ _ _ h1 h2 h)
  exact ⟨⟨c1, r1.trans (decide_eq_decide.mpr (by omega))⟩, c2, r2.trans (decide_eq_decide.mpr (by omega))⟩
theorem spot_of (y : Int) (n : Nat) (h : 0 < n) : ∃ k : Nat, k < n ∧ y.fmod (n : Int) = (k : Int) := by
  have h1 : y.fmod (n : Int) = y % (n : Int) := Int.fmod_eq_emod_of_nonneg _ (by omega)
  have h2 := Int.emod_nonneg y (show (n : Int) ≠ 0 by omega)
  have h3 := Int.emod_lt_of_pos y (show (0 : Int) < (n : Int) by omega)
  exact ⟨(y % (n : Int)).toNat, by omega, by rw [h1]; omega⟩
theorem cut_at : ∀ (l : List Value) (k : Nat) (y : Value), l[k]? = some y → kl_cut l k = some (l.take k, y, l.drop (k + 1))
  | [], k, y, h => by simp at h
  | x :: r, 0, y, h => by simp at h; subst h; rfl
  | x :: r, k + 1, y, h => by
    simp only [List.getElem?_cons_succ] at h
    unfold kl_cut
    rw [cut_at r k y h]; rfl
section
variable {prog : Program} {w : World} {A : Around} {E : Value → Shared → Prop} {s : Shared} {h₀ : Heap} {L D : Addr} {m : Str → Option Value} {news news' : List (Addr × Obj)} {vs : List Value} {n k : Nat} {i : Int} {u : Tok} {Q : Value → Shared → Prop}
theorem pop_at (F : Fr h₀ L s.heap m) (N : News h₀ L s.heap news) (hi : i = (k : Int)) (hk : k < vs.length) (hz : vs.length ≤ 100000) (U : Upd D (W.listOf vs.toArray n) (W.listOf (vs.eraseIdx k).toArray (n + 1)) news news')
    (h : ∀ y h', Fr h₀ L h' m → News h₀ L h' news' → Q y { s with heap := h' }) : wpAny (model prog w) A (call (.builtin "list.pop") [.ref D, .int i u]) Q E s := by
  subst hi
  have e : vs.eraseIdx k = vs.take k ++ vs.drop (k + 1) := List.eraseIdx_eq_take_drop_succ _ _
  rw [e] at U
  refine kl_popAt F N (by rw [Builtin.List.listFitsIndex]; simp; omega) (k := k) ?_ (cut_at vs k _ (List.getElem?_eq_getElem hk)) U (by rw [sizeLine_eq]; simp; omega) (fun h' F' N' => h _ h' F' N')
  rw [List.size_toArray]
  exact StrLaws.seqIndex_nonneg (by omega) (by omega)
theorem ins_at {y : Value} (F : Fr h₀ L s.heap m) (N : News h₀ L s.heap news) (hi : i = (k : Int)) (hk : k ≤ vs.length) (hz : vs.length ≤ 100000) (U : Upd D (W.listOf vs.toArray n) (W.listOf (vs.take k ++ y :: vs.drop k).toArray (n + 1)) news news')
    (h : ∀ h', Fr h₀ L h' m → News h₀ L h' news' → Q .none { s with heap := h' }) : wpAny (model prog w) A (call (.builtin "list.insert") [.ref D, .int i u, y]) Q E s := by
  subst hi
  refine kl_insert F N (by rw [Builtin.List.listFitsIndex]; simp; omega) ?_ U (by rw [sizeLine_eq]; simp; omega) h
  unfold kl_ins
  rw [if_neg (by omega)]
  simp [Nat.min_eq_left hk]
end
end Mine
end
section
open PySem PySem.W PyProof.Rows PySem.Calls
set_option Elab.async false
set_option linter.unusedVariables false
set_option maxRecDepth 100000
namespace Mine
theorem its_out {pl : List (Addr × Obj)} {rs : List Value} {its : List (List Nat)} (h : Its pl rs its) (k : Nat) : Its pl (rs.eraseIdx k) (its.eraseIdx k) := by
  refine ⟨by rw [List.length_eraseIdx, List.length_eraseIdx, h.1], fun j it hj => ?_⟩
  rw [List.getElem?_eraseIdx] at hj ⊢
  split at hj
  · rw [if_pos (by assumption)]; exact h.2 j it hj
  · rw [if_neg (by assumption)]; exact h.2 (j + 1) it hj
theorem labs_out {lbs : List Str} {its : List (List Nat)} (h : Labs lbs its) (k : Nat) : Labs (lbs.eraseIdx k) (its.eraseIdx k) := by
  refine ⟨by rw [List.length_eraseIdx, List.length_eraseIdx, h.1], fun j it l hj hl => ?_⟩
  rw [List.getElem?_eraseIdx] at hj hl
  split at hj
  · rw [if_pos (by assumption)] at hl; exact h.2 j it l hj hl
  · rw [if_neg (by assumption)] at hl; exact h.2 (j + 1) it l hj hl
theorem items_out {its : List (List Nat)} {st : Int} {i : Nat} (h : ItemsOk its st i) (k : Nat) : ItemsOk (its.eraseIdx k) st (i + 1) :=
  ⟨rise_del k h.rise, fun a ha => h.ne a (List.mem_of_mem_eraseIdx ha), fun a ha => Nat.le_succ_of_le (h.short a (List.mem_of_mem_eraseIdx ha)), by rw [List.length_eraseIdx]; have := h.few; split <;> omega, fun a ha => h.below a (List.mem_of_mem_eraseIdx ha)⟩
theorem j01_out {Bd aF aI aL aR : Addr} {fs : List Value} {xs : List Int} {i spot : Nat} {m' : Str → Option Value} {its : List (List Nat)} {lbs : List Str} {rs lvs rvs : List Value} {n1 n2 n3 : Nat} {pl : List (Addr × Obj)} {st x : Int} {ts : Tok}
    (hpl : ∀ p ∈ pl, @LT.lt Nat _ Bd p.1) (hits : Its pl rs its) (hlv : SV lvs lbs) (hrv : SV rvs (rowOf lbs)) (hlab : Labs lbs its) (hok : ItemsOk its st i) (hst : (-1 : Int) ≤ st) (hnd : st + (need (xs.drop i) : Nat) ≤ 20) (hx : xs[i]? = some x)
    (hsp : spot < lbs.length) (P : Pins m' (names01 aF aI aL aR st ts)) :
    J01 Bd aF aI aL aR fs xs (i + 1) m' (ledg aF aI aL aR fs (rs.eraseIdx spot) (lvs.eraseIdx spot) (rvs.eraseIdx (spot + 1)) n1 n2 n3 pl) := by
  refine ⟨its.eraseIdx spot, lbs.eraseIdx spot, _, _, _, n1, n2, n3, pl, st, ts, rfl, hpl, its_out hits spot, hlv.erase spot, ?_, labs_out hlab spot, items_out hok spot, hst, ?_, P⟩
  · have := hrv.erase (spot + 1)
    unfold rowOf at this ⊢
    rw [row_erase _ _ _ _ hsp] at this
    exact this
  · rw [need_drop hx] at hnd; omega
theorem its_in {pl : List (Addr × Obj)} {rs : List Value} {its : List (List Nat)} (h : Its pl rs its) {k : Nat} (hk : k ≤ its.length) {a : Addr} {vals : List Value} {n : Nat} {q : List Nat} (hv : SV vals (q.map pt)) :
    Its ((a, W.listOf vals.toArray n) :: pl) (rs.take k ++ .ref a :: rs.drop k) (its.take k ++ q :: its.drop k) := by
  refine ⟨by simp [h.1], fun j it hj => ?_⟩
  rw [getElem?_ins _ _ _ hk] at hj
  rw [getElem?_ins _ _ _ (by rw [h.1]; exact hk)]
  by_cases h1 : j < k
  · rw [if_pos h1] at hj ⊢
    obtain ⟨b, vs, m, e1, e2, e3⟩ := h.2 j it hj
    exact ⟨b, vs, m, e1, .tail _ e2, e3⟩
  · rw [if_neg h1] at hj ⊢
    by_cases h2 : j = k
    · rw [if_pos h2] at hj ⊢
      cases hj
      exact ⟨a, vals, n, rfl, .head _, hv⟩
    · rw [if_neg h2] at hj ⊢
      obtain ⟨b, vs, m, e1, e2, e3⟩ := h.2 (j - 1) it hj
      exact ⟨b, vs, m, e1, .tail _ e2, e3⟩
theorem labs_in {lbs : List Str} {its : List (List Nat)} (h : Labs lbs its) {k : Nat} (hk : k ≤ its.length) {l : Str} {q : List Nat} (h1 : LabOk l) (h2 : keyOf l = flat q) : Labs (lbs.take k ++ l :: lbs.drop k) (its.take k ++ q :: its.drop k) := by
  refine ⟨by simp [h.1], fun j it l' hj hl => ?_⟩
  rw [getElem?_ins _ _ _ hk] at hj
  rw [getElem?_ins _ _ _ (by rw [h.1]; exact hk)] at hl
  by_cases c1 : j < k
  · rw [if_pos c1] at hj hl; exact h.2 j it l' hj hl
  · rw [if_neg c1] at hj hl
    by_cases c2 : j = k
    · rw [if_pos c2] at hj hl; cases hj; cases hl; exact ⟨h1, h2⟩
    · rw [if_neg c2] at hj hl; exact h.2 (j - 1) it l' hj hl
theorem mem_ins {α : Type} {l : List α} {k : Nat} {x a : α} (h : a ∈ l.take k ++ x :: l.drop k) : a = x ∨ a ∈ l := by
  rcases List.mem_append.mp h with h | h
  · exact .inr (List.mem_of_mem_take h)
  · rcases List.mem_cons.mp h with h | h
    · exact .inl h
    · exact .inr (List.mem_of_mem_drop h)
theorem items_in {its : List (List Nat)} {st st' : Int} {i spot c : Nat} {p : List Nat} (h : ItemsOk its st i) (hs : spot ≤ its.length) (hst : st < st') (hc : st' = (c : Int)) (hpl : p.length ≤ i) (hpb : ∀ x ∈ p, (x : Int) ≤ st)
    (H : ∀ m a, its[m]? = some a → (m < spot → ltI a (p ++ [c]) = true) ∧ (spot ≤ m → ltI (p ++ [c]) a = true)) : ItemsOk (its.take spot ++ (p ++ [c]) :: its.drop spot) st' (i + 1) := by
  refine ⟨rise_ins h.rise hs H, fun a ha => ?_, fun a ha => ?_, ?_, fun a ha x hx => ?_⟩
  · rcases mem_ins ha with rfl | ha
    · simp
    · exact h.ne a ha
  · rcases mem_ins ha with rfl | ha
    · simp; omega
    · exact Nat.le_succ_of_le (h.short a ha)
  · have := h.few; simp; omega
  · rcases mem_ins ha with rfl | ha
    · rcases List.mem_append.mp hx with hx | hx
      · have := hpb x hx; omega
      · rw [List.mem_singleton.mp hx]; omega
    · have := h.below a ha x hx; omega
theorem j01_in {Bd aF aI aL aR aP : Addr} {fs : List Value} {xs : List Int} {i spot c : Nat} {m' : Str → Option Value} {its : List (List Nat)} {lbs : List Str} {rs lvs rvs pv : List Value} {n1 n2 n3 n4 : Nat} {pl : List (Addr × Obj)} {st st' x : Int} {ts tl : Tok} {p : List Nat} {l : Str}
    (hpl : ∀ p ∈ pl, @LT.lt Nat _ Bd p.1) (hP : @LT.lt Nat _ Bd aP) (hits : Its pl rs its) (hlv : SV lvs lbs) (hrv : SV rvs (rowOf lbs)) (hlab : Labs lbs its) (hok : ItemsOk its st i) (hst : (-1 : Int) ≤ st) (hnd : st + (need (xs.drop i) : Nat) ≤ 20) (hx : xs[i]? = some x)
    (hst' : st' = st + (inc x : Nat)) (hc : st' = (c : Int)) (hs : spot ≤ its.length) (hpv : SV pv ((p ++ [c]).map pt)) (hpi : p.length ≤ i) (hpb : ∀ x ∈ p, (x : Int) ≤ st) (hl1 : LabOk l) (hl2 : keyOf l = flat (p ++ [c]))
    (H : ∀ m a, its[m]? = some a → (m < spot → ltI a (p ++ [c]) = true) ∧ (spot ≤ m → ltI (p ++ [c]) a = true)) (P : Pins m' (names01 aF aI aL aR st' ts)) :
    J01 Bd aF aI aL aR fs xs (i + 1) m' (ledg aF aI aL aR fs (rs.take spot ++ .ref aP :: rs.drop spot) (lvs.take spot ++ .str l tl :: lvs.drop spot) (rvs.take (spot + 1) ++ .str l tl :: rvs.drop (spot + 1)) n1 n2 n3 ((aP, W.listOf pv.toArray n4) :: pl)) := by
  have hinc : 1 ≤ inc x := by unfold inc; omega
  refine ⟨its.take spot ++ (p ++ [c]) :: its.drop spot, lbs.take spot ++ l :: lbs.drop spot, _, _, _, n1, n2, n3, _, st', ts, rfl, ?_, its_in hits hs hpv, hlv.ins spot l tl, ?_, labs_in hlab hs hl1 hl2, items_in hok hs (by omega) hc hpi hpb H, by omega, ?_, P⟩
  · intro q hq
    rcases List.mem_cons.mp hq with rfl | hq
    · exact hP
    · exact hpl q hq
  · have := hrv.ins (spot + 1) l tl
    unfold rowOf at this ⊢
    rw [row_ins _ _ _ _ _ (by rw [hlab.1]; exact hs)] at this
    exact this
  · rw [need_drop hx] at hnd; omega
end Mine
end
section
open PySem PySem.W PyProof.Rows PySem.Calls
set_option Elab.async false
set_option linter.unusedVariables false
set_option maxRecDepth 100000
namespace Mine
theorem SV.strs {vs : List Value} {ls : List Str} (h : SV vs ls) : StrsAre vs ls := by
  induction h with
  | nil => exact .nil
  | cons _ ih => exact .cons _ _ ih
def Parts01 (s : Shared) (L Bd : Addr) (M : List (Str × Value)) (base : List (Addr × Obj)) (its : List (List Nat)) (spot c : Nat) (f : Flow) (s' : Shared) : Prop :=
  f = .next ∧ ∃ h tk m' aP pv n p, s' = { s with heap := h, toks := tk } ∧ Fr s.heap L h m' ∧ News s.heap L h ((aP, W.listOf (List.toArray pv) n) :: base) ∧ (@LT.lt Nat _ Bd aP) ∧
    SV pv ((p ++ [c]).map pt) ∧ ((spot = 0 ∧ p = []) ∨ (0 < spot ∧ its[spot - 1]? = some p)) ∧ Pins m' ((Str.ofString "parts", .ref aP) :: M)
theorem inc_int (x : Int) : 1 + (x.fdiv 4).fmod 2 = ((inc x : Nat) : Int) := by
  unfold inc
  have h1 : 0 ≤ (x.fdiv 4).fmod 2 := by rw [Int.fmod_eq_emod_of_nonneg _ (by decide)]; omega
  omega
theorem allLt_mem {d : Nat} : ∀ {l : List (Addr × Obj)}, AllLt d l → ∀ {p : Addr × Obj}, p ∈ l → @LT.lt Nat _ p.1 d
  | [], _, _, hp => by cases hp
  | q :: r, h, p, hp => (List.mem_cons.mp hp).elim (fun e => e ▸ h.1) fun hp => allLt_mem h.2 hp
def After01 (s : Shared) (L : Addr) (M : List (Str × Value)) (aF aI aL aR : Addr) (fs rs lvs rvs : List Value) (n1 n2 : Nat) (pl : List (Addr × Obj)) (spot : Nat) (f : Flow) (s' : Shared) : Prop :=
  f = .next ∧ ∃ h tk m' n3 t, s' = { s with heap := h, toks := tk } ∧ Fr s.heap L h m' ∧ News s.heap L h (ledg aF aI aL aR fs rs lvs rvs n1 n2 n3 pl) ∧ Pins m' ((Str.ofString "found", .int (spot : Int) t) :: (Str.ofString "given", .none) :: M)
theorem fall_len : fall.length = 21 := rfl
end Mine
end
section
open PySem PySem.W PyProof.Rows PySem.Calls
set_option Elab.async false
set_option linter.unusedVariables false
set_option maxRecDepth 100000
namespace Mine
set_option maxHeartbeats 8000000 in
theorem main01 {w : World} {mg mb : Str → Option Value} {s : Shared} {R : Result → Shared → Prop} {sc : Addr} {vs : List Value} {ns : List Int}
    (G : Gd w mg mb s.heap) (hsc : s.heap.IsList sc vs.toArray) (hI : IntsAre vs ns) (hn : ns.length ≤ 63)
    (k : ∀ h' tk', (∀ b o, s.heap.get? b = some o → h'.get? b = some o) → R (.ok (.ret (.bool true))) { s with heap := h', toks := tk' }) :
    codeC (model Challenge.rw_ph0088_01.row.prog w) callerA (.call (.ref 108) ⟨[.ref sc], []⟩) R s := by
  have B : Bs s.heap [] [] s.heap := ⟨fun _ _ e => e, trivial, (fun p hp => by cases hp), fun p hp => by cases hp⟩
  have X := G.X
  have T := G.T
  revert X; k_fill; intro X
  refine call_C (K := hd.heap_39 w.params) (binds := [(Str.ofString "script", .ref sc)]) B G.X G.T.nolimit rfl rfl (by decide +kernel) (BindsTo.of_eq rfl) rfl (fun L h₁ F N => ?_)
  change Fr s.heap L h₁ _ at F
  change News s.heap L h₁ [] at N
  refine wpC_execs_any ?_
  k_steps
  refine falling_at G F N (by show callerA.depth + 1 < recursionLimit; decide +kernel) ?_
  intro h2 tk2 aF fs F2 N2 hne hfs
  clear F N
  k_steps
  dsimp only
  refine wpC_execs_any ?_
  k_steps
  dsimp only
  rename Fr _ _ _ _ => F3
  rename News _ _ _ _ => N3
  rename_i aI h3 l1 aL h4 l2 aR h5 l3 D5 h6 l4 _ _ _ _

  refine wpC_execs_cons (wpC_For (wpAny_mono (Q := Start01 s L aF aI aL aR fs (tk2 + 1)) ?_ ?_ fun _ _ x => x))
  · k_steps
    · rename Fr _ _ _ _ => F4
      rename News _ _ _ _ => N4
      rename IntsAre _ (_ ++ _) => hI4
      rename_i l9
      have N5 := (nw_cons N4 (.head _) (nw_cons N4 (.tail _ (.tail _ (.tail _ (.tail _ (.head _))))) (nw_cons N4 (.tail _ (.tail _ (.tail _ (.tail _ (.tail _ (.head _)))))) (nw_cons N4 (.tail _ (.tail _ (.tail _ (.tail _ (.tail _ (.tail _ (.head _))))))) (nw_cons N4 (.tail _ (.tail _ (.tail _ (.tail _ (.tail _ (.tail _ (.tail _ (.tail _ (.head _))))))))) nw_nil)))))
      exact ⟨_, _, _, _, _, _, _, _, rfl, rfl, F4, N5, l9.2.2.2.1, hI4, need_start ns, rfl, rfl, rfl, rfl, rfl, trivial⟩
    · rename Fr _ _ _ _ => F4
      rename News _ _ _ _ => N4
      rename_i l9
      have N5 := (nw_cons N4 (.head _) (nw_cons N4 (.tail _ (.tail _ (.tail _ (.tail _ (.tail _ (.head _)))))) (nw_cons N4 (.tail _ (.tail _ (.tail _ (.tail _ (.tail _ (.tail _ (.head _))))))) (nw_cons N4 (.tail _ (.tail _ (.tail _ (.tail _ (.tail _ (.tail _ (.tail _ (.head _)))))))) (nw_cons N4 (.tail _ (.tail _ (.tail _ (.tail _ (.tail _ (.tail _ (.tail _ (.tail _ (.tail _ (.head _)))))))))) nw_nil)))))
      exact ⟨_, _, [0, 157, 30, 5, 422, 273, 308, 123, 1133, 1274, 8021], _, _, _, _, _, rfl, rfl, F4, N5, l9.2.2.2.2.1, by repeat constructor, need_own, rfl, rfl, rfl, rfl, rfl, trivial⟩
  · rintro v s₁ ⟨D, ws, xs, h, tk, m', t1, t2, rfl, rfl, F4, N4, hRD, hI4, hneed, P4⟩
    have hDh := Heap.lt_size (N4 _ (.head _)).1
    dsimp only at hDh
    have d1 : @LT.lt Nat _ aF aI := l1.2
    have d2 : @LT.lt Nat _ aI aL := l2.1
    have d3 : @LT.lt Nat _ aL aR := l3.1
    have hDL : D ≠ L := (N4 _ (.head _)).2.1
    have hD0 : s.heap.get? D = none := (N4 _ (.head _)).2.2
    generalize hBd : h.objs.size = Bd at hDh
    refine loopC_list (J01 Bd aF aI aL aR fs xs) rfl ⟨_, (N4 _ (.head _)).1, rfl, _, rfl⟩ hDL hD0 F4 (fun p hp => N4 p (.tail _ hp)) (j01_start hneed P4) ?_ ?_ ?_
    · rintro i v m₁ nx g tg own hv hown hob ⟨its, lbs, rs, lvs, rvs, n1, n2, n3, pl, st, ts, rfl, hpl, hits, hlv, hrv, hlab, hok, hst, hnd, P1⟩ F1 N1
      obtain ⟨x, tx, rfl, hx⟩ := ints_at hI4 hv
      have hown' : ∀ p ∈ own, p.1 = D ∨ p.1 = Bd := fun p hp => by rw [← hBd]; exact hown p hp
      have F5 : Fr s.heap L g _ := pins F1 ((Str.ofString "x", .int x tx) :: names01 aF aI aL aR st ts) ⟨rfl, P1⟩
      have N5 : News s.heap L g (ledg aF aI aL aR fs rs lvs rvs n1 n2 n3 (pl ++ own)) := fun p hp => N1 p (by
        simp only [ledg, List.mem_cons, List.mem_append] at hp ⊢
        rcases hp with h | h | h | h | h | h <;> simp [h])
      clear F1 N1 F4 N4
      have hrest : ∀ a : Nat, a ≤ aR → ∀ p ∈ pl ++ own, p.1 ≠ a := by
        intro a ha p hp e
        have big : @LT.lt Nat _ aR p.1 := by
          rcases List.mem_append.mp hp with h | h
          · exact Nat.lt_trans (Nat.lt_trans hRD hDh) (hpl p h)
          · rcases hown' p h with h | h
            · rw [h]; exact hRD
            · rw [h]; exact Nat.lt_trans hRD hDh
        exact absurd (Nat.lt_of_lt_of_le big (e ▸ ha)) (Nat.lt_irrefl _)
      have hIR : aR ≠ aI := Nat.ne_of_gt (Nat.lt_trans d2 d3)
      have hIL : aL ≠ aI := Nat.ne_of_gt d2
      have hLR : aR ≠ aL := Nat.ne_of_gt d3
      have upI : ∀ p ∈ (aF, tupO fs) :: (pl ++ own), p.1 ≠ aI := by
        intro p hp
        rcases List.mem_cons.mp hp with rfl | hp
        · exact Nat.ne_of_lt d1
        · exact hrest aI (Nat.le_of_lt (Nat.lt_trans d2 d3)) p hp
      have upL : ∀ v, ∀ p ∈ (aI, v) :: (aF, tupO fs) :: (pl ++ own), p.1 ≠ aL := by
        intro v p hp
        rcases List.mem_cons.mp hp with rfl | hp
        · exact Nat.ne_of_lt d2
        · rcases List.mem_cons.mp hp with rfl | hp
          · exact Nat.ne_of_lt (Nat.lt_trans d1 d2)
          · exact hrest aL (Nat.le_of_lt d3) p hp
      have upR : ∀ u v, ∀ p ∈ (aL, u) :: (aI, v) :: (aF, tupO fs) :: (pl ++ own), p.1 ≠ aR := by
        intro u v p hp
        rcases List.mem_cons.mp hp with rfl | hp
        · exact Nat.ne_of_lt d3
        · rcases List.mem_cons.mp hp with rfl | hp
          · exact Nat.ne_of_lt (Nat.lt_trans d2 d3)
          · rcases List.mem_cons.mp hp with rfl | hp
            · exact Nat.ne_of_lt (Nat.lt_trans d1 (Nat.lt_trans d2 d3))
            · exact hrest aR (Nat.le_refl _) p hp
      have erl : rvs.toArray.size = lbs.length + 2 := by rw [List.size_toArray, hrv.length]; simp [rowOf]
      have hi21 : i < 21 := by
        have h1 := (List.getElem?_eq_some_iff.mp hx).1
        have h2 := len_need xs
        omega
      have hl11 : lbs.length ≤ 900 := by
        have := hok.few
        rw [← hlab.1] at this
        omega
      refine wpC_execs_any ?_
      k_steps
      rename Fr _ _ _ _ => F6
      rename News _ _ _ _ => N6
      rw [show (((lbs.length + 2 : Nat) : Int) - 1) = ((lbs.length + 1 : Nat) : Int) by omega] at F6
      rename_i h6
      dsimp only at F6 N6 ⊢
      have ern : rs.toArray.size = its.length := by rw [List.size_toArray, hits.1]
      refine wpC_execs_cons (wpC_mono (Q := Mid01 s L own Bd aF aI aL aR fs xs i) (E := NoE) (wpC_If (wpC_of_any (wpAny_mono (Q := Test01 s h6 its.length) (E := NoE) ?_ ?_ fun _ _ x => x))) ?_ fun _ _ x => x)
      · k_steps
        · rename News _ _ _ _ => N6
          have hI6 : h6.get? aI = some (W.listOf rs.toArray n1) := (N6 _ (.tail _ (.tail _ (.head _)))).1
          have few := hok.few
          refine wpAny_truthy_list (items := rs.toArray) ⟨_, hI6, rfl, _, rfl⟩ (by rw [ern]; omega) ?_
          have hem : (!rs.toArray.isEmpty) = decide (0 < its.length) := by
            rw [← ern]; unfold Array.isEmpty
            cases q : rs.toArray.size with
            | zero => rfl
            | succ n => simp
          rw [hem]
          by_cases hz : 0 < its.length
          · rw [decide_eq_true hz]
            k_steps
            exact ⟨⟨_, rfl⟩, fun _ => hz⟩
          · rw [decide_eq_false hz]
            k_steps
            exact ⟨⟨_, rfl⟩, fun h => by cases h⟩
        · exact ⟨⟨_, rfl⟩, fun h => by cases h⟩
      · rintro b s₂ ⟨⟨tk7, rfl⟩, hb⟩
        cases b with
        | true =>
          have hn0 := hb rfl
          rw [if_pos rfl]
          have few := hok.few
          have hnz : ((its.length : Nat) : Int) ≠ 0 := by omega
          have hs20 : st ≤ 20 := by omega
          refine wpC_execs_any ?_
          k_steps
          rename Fr _ _ _ _ => F7
          rename News _ _ _ _ => N7
          obtain ⟨spot, hsp, hse⟩ := spot_of (x.fdiv 120) its.length hn0
          rw [hse] at F7
          dsimp only at F7 N7 ⊢
          obtain ⟨l0, hl0⟩ : ∃ l, lbs[spot]? = some l := ⟨_, List.getElem?_eq_getElem (by rw [hlab.1]; omega)⟩
          obtain ⟨v0, hv0, t0, rfl⟩ : ∃ v, lvs[spot]? = some v ∧ ∃ t, v = .str l0 t := by
            obtain ⟨v, hv⟩ : ∃ v, lvs[spot]? = some v := ⟨_, List.getElem?_eq_getElem (by rw [hlv.length, hlab.1]; omega)⟩
            obtain ⟨l', hl', t, rfl⟩ := hlv.at hv
            rw [hl0] at hl'; cases hl'
            exact ⟨_, hv, t, rfl⟩
          refine wpC_execs_cons (wpC_Assign_Name (wpC_Call_Name ?_))
          k_steps
          refine wpC_call_K0 (K := hd.heap_39 w.params) rfl (wpC_of_any ?_)
          k_steps
          refine item_litK (vs := lvs) ⟨_, (N7 _ (.tail _ (.head _))).1, rfl, _, rfl⟩ (by omega) (by omega) (v := .str l0 t0) (by simpa using hv0) ?_
          k_steps
          refine cv_law G F7 N7 (hlab.all l0 (List.mem_of_getElem? hl0)) ?_
          intro h8 tk8 aT us n8 F8 N8 hne8 hus
          clear F7 N7
          k_steps
          rename Fr _ _ _ _ => F9
          rename News _ _ _ _ => N9
          dsimp only at F9 N9 ⊢
          have eend : (rowOf lbs).length = lbs.length + 2 := by simp [rowOf]
          have hspl : spot < lbs.length := by rw [hlab.1]; omega
          refine wpC_execs_cons (wpC_If (wpC_isTrue_Compare1 (wpC_Call_Name ?_)))
          k_steps
          refine wpC_call_K1 (K := hd.heap_39 w.params) rfl (wpC_of_any ?_)
          k_steps
          refine bl_law (lo := 1) (r := spot + 1) G F9 N9 (.tail _ (.head _)) hrv (.head _) hus (row_lab hlab.all) (by omega) (by omega) (by rw [eend]; omega) (by rw [eend]; omega) (out_l hlab hok hs20 hl0) ?_
          intro h10 tk10 t10 F10 N10
          clear F9 N9
          have hq1 : ((spot + 1 : Nat) : Int) = (spot : Int) + 1 := by omega
          rw [hq1]
          refine wpC_of_any ?_
          k_steps
          · rename_i hc; exact absurd rfl hc
          dsimp only
          refine wpC_execs_nil ?_
          dsimp only
          refine wpC_execs_cons (wpC_If (wpC_isTrue_Compare1 (wpC_Call_Name ?_)))
          k_steps
          refine wpC_call_K1 (K := hd.heap_39 w.params) rfl (wpC_of_any ?_)
          k_steps
          refine br_law (lo := 1) (r := spot + 2) G F10 N10 (.tail _ (.head _)) hrv (.head _) hus (row_lab hlab.all) (by omega) (by omega) (by rw [eend]; omega) (by rw [eend]; omega) (out_r hlab hok hs20 hl0) ?_
          intro h11 tk11 t11 F11 N11
          clear F10 N10
          have hq2 : ((spot + 2 : Nat) : Int) = (spot : Int) + 2 := by omega
          rw [hq2]
          refine wpC_of_any ?_
          k_steps
          · rename_i hc; exact absurd rfl hc
          dsimp only
          refine wpC_execs_nil ?_
          dsimp only
          have N12 : News s.heap L h11 (ledg aF aI aL aR fs rs lvs rvs n1 n2 n3 (pl ++ own)) := fun p hp => N11 p (.tail _ hp)
          clear N11
          have hrsl : rs.length = its.length := hits.1
          have hlvl : lvs.length = its.length := by rw [hlv.length, hlab.1]
          have hrvl : rvs.length = its.length + 2 := by rw [hrv.length, eend, hlab.1]
          refine wpC_execs_any ?_
          k_steps
          refine pop_at (vs := rs) (k := spot) F11 N12 rfl (by omega) (by omega) (.tail hIR (.tail hIL (.head upI))) ?_
          intro y13 h13 F13 N13
          clear F11 N12
          dsimp only
          refine wpC_execs_any ?_
          k_steps
          refine pop_at (vs := lvs) (k := spot) F13 N13 rfl (by omega) (by omega) (.tail hLR (.head (upL _))) ?_
          intro y14 h14 F14 N14
          clear F13 N13
          dsimp only
          refine wpC_execs_any ?_
          k_steps
          refine pop_at (vs := rvs) (k := spot + 1) F14 N14 (by omega) (by omega) (by omega) (.head (upR _ _)) ?_
          intro y15 h15 F15 N15
          clear F14 N14
          dsimp only
          refine wpC_execs_nil ⟨rfl, h15, _, _, _, rfl, F15, ?_, j01_out (n1 := n1 + 1) (n2 := n2 + 1) (n3 := n3 + 1) hpl hits hlv hrv hlab hok hst hnd hx hspl ⟨rfl, rfl, rfl, rfl, rfl, trivial⟩⟩
          intro p hp
          refine N15 p ?_
          simp only [ledg, List.mem_cons, List.mem_append] at hp ⊢
          rcases hp with h | h | h | h | h | h <;> simp [h]
        | false =>
          rw [if_neg Bool.false_ne_true]
          have hs20 : st ≤ 20 := by omega
          clear hl11
          have few := hok.few
          have hnz : (((its.length : Nat) : Int) + 1) ≠ 0 := by omega
          refine wpC_execs_any ?_
          k_steps
          dsimp only
          refine wpC_execs_any ?_
          k_steps
          rename Fr _ _ _ _ => F7
          rename News _ _ _ _ => N7
          obtain ⟨spot, hsp, hse⟩ := spot_of (x.fdiv 120) (its.length + 1) (by omega)
          rw [show (((its.length + 1 : Nat)) : Int) = (its.length : Int) + 1 by omega] at hse
          rw [hse, inc_int] at F7
          have hdr := need_drop hx
          have hle := inc_le x
          have hge : 1 ≤ inc x := by unfold inc; omega
          obtain ⟨c, hc⟩ : ∃ c : Nat, st + (inc x : Int) = (c : Int) := ⟨(st + (inc x : Int)).toNat, by omega⟩
          have hc21 : c < 21 := by omega
          rw [hc] at F7
          dsimp only at F7 N7 ⊢
          refine wpC_execs_any (wpAny_mono (Q := Parts01 s L Bd (((Str.ofString "spot", .int (spot : Int) (tk7 + 14))) :: (Str.ofString "end", .int ((lbs.length + 1 : Nat) : Int) (tg + 1 + 1 + 1)) :: (Str.ofString "x", .int x tx) :: names01 aF aI aL aR (c : Int) (tk7 + 6)) (ledg aF aI aL aR fs rs lvs rvs n1 n2 n3 (pl ++ own)) its spot c) ?_ ?_ fun _ _ x => x)
          · k_steps
            · rename_i hgt
              have h0 : 0 < spot := by omega
              obtain ⟨q, hq⟩ : ∃ q, its[spot - 1]? = some q := ⟨_, List.getElem?_eq_getElem (by omega)⟩
              obtain ⟨a, vals, n, e1, e2, e3⟩ := hits.2 _ _ hq
              have hql := hok.short q (List.mem_of_getElem? hq)
              have hvl : vals.length = q.length := by rw [e3.length, List.length_map]
              refine item_litK (vs := rs) ⟨_, (N7 _ (.tail _ (.tail _ (.head _)))).1, rfl, _, rfl⟩ (by omega) (by omega) (v := .ref a) (by rw [show ((spot : Int) - 1).toNat = spot - 1 by omega]; exact e1) ?_
              k_steps
              refine item_strsTu (ys := fall) (l := fs) ⟨_, (N7 _ (.tail _ (.tail _ (.tail _ (.head _))))).1, rfl, _, rfl⟩ hfs.strs (by omega) (by rw [fall_len]; omega) (by omega) ?_
              intro tf
              rw [Int.toNat_natCast]
              k_steps
              rename Fr _ _ _ _ => F8
              rename News _ _ _ _ => N8
              have hl8 := (N8 _ (.head _)).1
              have ha8 := (N8 _ (.tail _ (.tail _ (.tail _ (.tail _ (.tail _ (List.mem_append_left _ e2))))))).1
              clear few
              refine kmk_add_lit (its := vals.toArray) (its2 := #[_]) (zs := vals ++ [_]) F8 N8 ⟨_, ha8, rfl, _, rfl⟩ ⟨_, hl8, rfl, _, rfl⟩ rfl ?_ (by rw [sizeLine_eq]; show vals.length + 1 ≤ _; omega)
              intro D1 h10 F10 N10 l10
              clear F8 N8 ha8 hl8 hvl hql
              k_steps
              rename Fr _ _ _ _ => F11
              rename News _ _ _ _ => N11
              refine ⟨rfl, _, _, _, D1, _, 0, q, rfl, F11, nw_cons N11 (.head _) (fun p hp => N11 p (.tail _ (.tail _ hp))), ?_, ?_, .inr ⟨h0, hq⟩, rfl, rfl, rfl, rfl, rfl, rfl, rfl, rfl, rfl, trivial⟩
              · obtain ⟨o, ho⟩ := hob
                exact hBd ▸ l10 _ (.tail _ (.tail _ (.tail _ (.tail _ (.tail _ (List.mem_append_right _ ho))))))
              · rw [List.map_append]; exact e3.append (.cons .nil)
            · rename_i hgt
              have h0 : spot = 0 := by omega
              rename News _ _ _ _ => N7
              refine item_strsTu (ys := fall) (l := fs) ⟨_, (N7 _ (.tail _ (.tail _ (.tail _ (.tail _ (.head _)))))).1, rfl, _, rfl⟩ hfs.strs (by omega) (by rw [fall_len]; omega) (by omega) ?_
              intro tf
              rw [Int.toNat_natCast]
              k_steps
              rename Fr _ _ _ _ => F8
              rename News _ _ _ _ => N8
              rename_i l9 h9
              refine ⟨rfl, _, _, _, _, _, 0, [], rfl, F8, nw_cons N8 (.head _) (fun p hp => N8 p (.tail _ (.tail _ (.tail _ hp)))), ?_, .cons .nil, .inl ⟨h0, rfl⟩, rfl, rfl, rfl, rfl, rfl, rfl, rfl, rfl, rfl, trivial⟩
              obtain ⟨o, ho⟩ := hob
              exact hBd ▸ (allLt_mem l9.2.2.2.2.2.2 (List.mem_append_right _ ho))
          · rintro f s' ⟨rfl, h8, tk8, m8, aP, pv, n8, p8, rfl, F8, N8, hBP, hpv, hp8, P8⟩
            obtain ⟨sy, hsy, hse2⟩ := spot_of (x.fdiv 8) 15 (by omega)
            have hpb : ∀ y ∈ p8, (y : Int) ≤ st := by
              rcases hp8 with ⟨_, rfl⟩ | ⟨_, hq⟩
              · intro y hy; cases hy
              · exact fun y hy => hok.below p8 (List.mem_of_getElem? hq) y hy
            have hpi : p8.length ≤ i := by
              rcases hp8 with ⟨_, rfl⟩ | ⟨_, hq⟩
              · exact Nat.zero_le _
              · exact hok.short p8 (List.mem_of_getElem? hq)
            have hq21 : ∀ y ∈ p8 ++ [c], y < 21 := by
              intro y hy
              rcases List.mem_append.mp hy with hy | hy
              · have := hpb y hy; omega
              · rw [List.mem_singleton.mp hy]; exact hc21
            have hpok : ∀ y ∈ (p8 ++ [c]).map pt, PartOk y := by
              intro y hy
              obtain ⟨z, hz, rfl⟩ := List.mem_map.mp hy
              exact pt_ok (hq21 z hz)
            have hpl8 : ((p8 ++ [c]).map pt).length = p8.length + 1 := by simp
            have H := place (spot := spot) (c := c) (p := p8) hok.rise (by omega) (fun a ha y hy => by have := hok.below a ha y hy; omega) hok.ne hp8
            have F9 := pins F8 _ P8
            clear F7 N7 F8
            dsimp only
            refine wpC_execs_cons (wpC_Assign_Name (wpC_Call_Name ?_))
            k_steps
            refine wpC_call_K0 (K := hd.heap_39 w.params) rfl (wpC_of_any ?_)
            k_steps
            rw [show (x.fdiv 8).fmod 15 = (sy : Int) from hse2]
            clear few
            refine sp_law G F9 N8 (.head _) hpv (by omega) (fun p hp => (hpok p hp).1) (by omega) ?_
            intro h10 tk10 tl F10 N10
            clear F9 N8
            obtain ⟨hlo, hke⟩ := told_spell sy hpok (by simp) (by omega)
            rw [flat_map] at hke
            generalize spellTo ((p8 ++ [c]).map pt) sy ((p8 ++ [c]).map pt).length = lab at hlo hke ⊢
            k_steps
            rename Fr _ _ _ _ => F11
            rename News _ _ _ _ => N11
            dsimp only at F11 N11 ⊢
            refine wpC_execs_cons (wpC_Assign_Name (wpC_Call_Name ?_))
            k_steps
            refine wpC_call_K0 (K := hd.heap_39 w.params) rfl (wpC_of_any ?_)
            k_steps
            refine cv_law G F11 N11 hlo ?_
            intro h12 tk12 aT us n12 F12 N12 hne12 hus
            clear F11 N11
            k_steps
            rename Fr _ _ _ _ => F13
            rename News _ _ _ _ => N13
            dsimp only at F13 N13 ⊢
            have hlbl : lbs.length = its.length := hlab.1
            have eend : (rowOf lbs).length = lbs.length + 2 := by simp [rowOf]
            have hlim : lbs.length ≤ 21 := by have := hok.few; omega
            have ltBR : @LT.lt Nat _ aR Bd := Nat.lt_trans hRD hDh
            have hRP : @LT.lt Nat _ aR aP := Nat.lt_trans ltBR hBP
            have hnaR : ∀ p ∈ (aT, W.listOf us.toArray n12) :: (aP, W.listOf pv.toArray n8) :: (aL, W.listOf lvs.toArray n2) :: (aI, W.listOf rs.toArray n1) :: (aF, tupO fs) :: (pl ++ own), p.1 ≠ aR := by
              intro p hp
              rcases List.mem_cons.mp hp with rfl | hp
              · exact (hne12 (aR, _) (.tail _ (.head _))).symm
              · rcases List.mem_cons.mp hp with rfl | hp
                · exact Nat.ne_of_gt hRP
                · exact upR _ _ p hp
            refine wpC_execs_cons (wpC_mono (Q := After01 s L ((Str.ofString "parts", .ref aP) :: (Str.ofString "label", .str lab tl) :: (Str.ofString "spot", .int (spot : Int) (tk7 + 14)) :: (Str.ofString "x", .int x tx) :: names01 aF aI aL aR (c : Int) (tk7 + 6)) aF aI aL aR fs rs lvs (rvs.take (spot + 1) ++ .str lab tl :: rvs.drop (spot + 1)) n1 n2 ((aP, W.listOf pv.toArray n8) :: (pl ++ own)) spot) (E := NoE) (wpC_If (wpC_of_any ?_)) ?_ fun _ _ x => x)
            · k_steps
              · rename_i hodd
                refine wpC_execs_cons (wpC_Assign_Name (wpC_Call_Name ?_))
                k_steps
                refine wpC_call_K1 (K := hd.heap_39 w.params) rfl (wpC_of_any ?_)
                k_steps
                refine bl2_law (r := spot) G F13 N13 (.tail _ (.tail _ (.tail _ (.head _)))) hlv (.head _) hus hlab.all (by omega) (by omega) (fun m l _ _ hm => (in_at hlab hok hs20 hke hq21 H hm).1) ?_
                intro h14 tk14 t14 F14 N14
                clear F13 N13
                k_steps
                rename Fr _ _ _ _ => F15
                rename News _ _ _ _ => N15
                dsimp only at F15 N15 ⊢
                refine wpC_execs_cons (wpC_Assign_Name (wpC_Call_Name ?_))
                k_steps
                refine wpC_call_K1 (K := hd.heap_39 w.params) rfl (wpC_of_any ?_)
                k_steps
                refine ir_law (lo := 1) (r := spot + 1) G F15 (nw_cons N15 (.tail _ (.tail _ (.head _))) (nw_cons N15 (.head _) (nw_cons N15 (.tail _ (.head _)) fun p hp => N15 p (.tail _ (.tail _ (.tail _ hp)))))) hnaR hrv (row_lab hlab.all) hlo (by omega) (by omega) (by rw [eend]; omega) (by rw [eend]; omega) (fun m l h1 h2 hm => (in_row hlab hok hs20 hke hq21 H m l h1 h2 hm).2) ?_
                intro h17 tk17 n17 F17 N17
                clear F15 N15
                k_steps
                rename Fr _ _ _ _ => F18
                rename News _ _ _ _ => N18
                dsimp only at F18 N18 ⊢
                refine wpC_execs_nil ⟨rfl, _, _, _, n17, t14, rfl, F18, ?_, rfl, rfl, rfl, rfl, rfl, rfl, rfl, rfl, rfl, rfl, rfl, trivial⟩
                intro p hp
                refine N18 p ?_
                simp only [ledg, List.mem_cons, List.mem_append] at hp ⊢
                rcases hp with h | h | h | h | h | h | h <;> simp [h]
              · rename_i hodd
                refine wpC_execs_cons (wpC_Assign_Name (wpC_Call_Name ?_))
                k_steps
                refine wpC_call_K1 (K := hd.heap_39 w.params) rfl (wpC_of_any ?_)
                k_steps
                refine br2_law (r := spot) G F13 N13 (.tail _ (.tail _ (.tail _ (.head _)))) hlv (.head _) hus hlab.all (by omega) (by omega) (fun m l _ _ hm => (in_at hlab hok hs20 hke hq21 H hm).2) ?_
                intro h14 tk14 t14 F14 N14
                clear F13 N13
                k_steps
                rename Fr _ _ _ _ => F15
                rename News _ _ _ _ => N15
                dsimp only at F15 N15 ⊢
                refine wpC_execs_cons (wpC_Assign_Name (wpC_Call_Name ?_))
                k_steps
                refine wpC_call_K1 (K := hd.heap_39 w.params) rfl (wpC_of_any ?_)
                k_steps
                refine il_law (lo := 1) (r := spot + 1) G F15 (nw_cons N15 (.tail _ (.tail _ (.head _))) (nw_cons N15 (.head _) (nw_cons N15 (.tail _ (.head _)) fun p hp => N15 p (.tail _ (.tail _ (.tail _ hp)))))) hnaR hrv (row_lab hlab.all) hlo (by omega) (by omega) (by rw [eend]; omega) (by rw [eend]; omega) (fun m l h1 h2 hm => (in_row hlab hok hs20 hke hq21 H m l h1 h2 hm).1) ?_
                intro h17 tk17 n17 F17 N17
                clear F15 N15
                k_steps
                rename Fr _ _ _ _ => F18
                rename News _ _ _ _ => N18
                dsimp only at F18 N18 ⊢
                refine wpC_execs_nil ⟨rfl, _, _, _, n17, t14, rfl, F18, ?_, rfl, rfl, rfl, rfl, rfl, rfl, rfl, rfl, rfl, rfl, rfl, trivial⟩
                intro p hp
                refine N18 p ?_
                simp only [ledg, List.mem_cons, List.mem_append] at hp ⊢
                rcases hp with h | h | h | h | h | h | h <;> simp [h]
            · clear hus
              rintro f s' ⟨rfl, h20, tk20, m20, n20, t20, rfl, F20, N20, P20⟩
              have F21 := pins F20 _ P20
              clear F20 F13 N13
              dsimp only
              refine wpC_execs_any ?_
              k_steps
              · rename_i hcc; exact absurd rfl hcc
              dsimp only
              have hrsl : rs.length = its.length := hits.1
              have hlvl : lvs.length = its.length := by rw [hlv.length, hlab.1]
              have hrvl : rvs.length = its.length + 2 := by rw [hrv.length, eend, hlab.1]
              have hPI : aP ≠ aI := Nat.ne_of_gt (Nat.lt_trans d2 (Nat.lt_trans d3 hRP))
              have hPL : aP ≠ aL := Nat.ne_of_gt (Nat.lt_trans d3 hRP)
              have hFI : aF ≠ aI := Nat.ne_of_lt d1
              have upI' : ∀ p ∈ (aF, tupO fs) :: (aP, W.listOf pv.toArray n8) :: (pl ++ own), p.1 ≠ aI := by
                intro p hp
                rcases List.mem_cons.mp hp with rfl | hp
                · exact hFI
                · rcases List.mem_cons.mp hp with rfl | hp
                  · exact hPI
                  · exact upI p (.tail _ hp)
              have upL' : ∀ v, ∀ p ∈ (aI, v) :: (aF, tupO fs) :: (aP, W.listOf pv.toArray n8) :: (pl ++ own), p.1 ≠ aL := by
                intro v p hp
                rcases List.mem_cons.mp hp with rfl | hp
                · exact upL v _ (.head _)
                · rcases List.mem_cons.mp hp with rfl | hp
                  · exact upL v _ (.tail _ (.head _))
                  · rcases List.mem_cons.mp hp with rfl | hp
                    · exact hPL
                    · exact upL v p (.tail _ (.tail _ hp))
              refine wpC_execs_any ?_
              k_steps
              refine ins_at (vs := rs) (k := spot) F21 N20 rfl (by omega) (by omega) (.tail hIR (.tail hIL (.head upI'))) ?_
              intro h22 F22 N22
              clear F21 N20
              dsimp only
              k_steps
              refine wpC_execs_any ?_
              k_steps
              refine ins_at (vs := lvs) (k := spot) F22 N22 rfl (by omega) (by omega) (.tail hLR (.head (upL' _))) ?_
              intro h23 F23 N23
              clear F22 N22
              dsimp only
              k_steps
              refine wpC_execs_nil ⟨rfl, h23, _, _, _, rfl, F23, ?_, j01_in (n1 := n1 + 1) (n2 := n2 + 1) (n3 := n20) (n4 := n8) (tl := tl) hpl hBP hits hlv hrv hlab hok hst hnd hx hc.symm rfl (by omega) hpv hpi hpb hlo hke H ⟨rfl, rfl, rfl, rfl, rfl, trivial⟩⟩
              intro p hp
              refine N23 p ?_
              simp only [ledg, List.mem_cons, List.mem_append] at hp ⊢
              rcases hp with h | h | h | h | h | h | h <;> simp [h]
      · clear hnd hst hok hlab hrv hlv hits hpl P1 hrest upI upL upR erl ern hl11
        rintro f s' ⟨rfl, h7, tk7, m7, nx7, rfl, F7, N7, its', lbs', rs', lvs', rvs', n1', n2', n3', pl', st', ts', rfl, hpl, hits, hlv, hrv, hlab, hok, hst, hnd, P1⟩
        clear F6 N6
        have F8 := pins F7 _ P1
        clear F7
        have N8 : News s.heap L h7 (ledg aF aI aL aR fs rs' lvs' rvs' n1' n2' n3' (pl' ++ own)) := fun p hp => N7 p (by
          simp only [ledg, List.mem_cons, List.mem_append] at hp ⊢
          rcases hp with h | h | h | h | h | h <;> simp [h])
        clear N7
        have ell : lvs'.toArray.size = lbs'.length := by rw [List.size_toArray, hlv.length]
        dsimp only
        refine wpC_execs_any ?_
        k_steps
        rename Fr _ _ _ _ => F9
        rename News _ _ _ _ => N9
        have hle : lbs'.length ≤ 900 := by have := hok.few; rw [← hlab.1] at this; omega
        have hA9 := (N9 _ (.head _)).1
        have hL9 := (N9 _ (.tail _ (.tail _ (.head _)))).1
        refine kmk_add_lit (its := #[_]) (its2 := lvs'.toArray) (zs := _ :: lvs') F9 N9 ⟨_, hA9, rfl, _, rfl⟩ ⟨_, hL9, rfl, _, rfl⟩ rfl ?_ (by rw [sizeLine_eq]; show 1 + lvs'.length ≤ _; rw [hlv.length]; omega)
        intro D1 h10 F10 N10 l10
        clear F9 N9 hA9 hL9
        clear hle
        dsimp only
        k_steps
        rename Fr _ _ _ _ => F11
        rename News _ _ _ _ => N11
        have hle : lbs'.length ≤ 900 := by have := hok.few; rw [← hlab.1] at this; omega
        have hA11 := (N11 _ (.head _)).1
        have hD11 := (N11 _ (.tail _ (.head _))).1
        refine kmk_add_lit (its := (_ :: lvs').toArray) (its2 := #[_]) (zs := (_ :: lvs') ++ [_]) F11 N11 ⟨_, hD11, rfl, _, rfl⟩ ⟨_, hA11, rfl, _, rfl⟩ rfl ?_ (by rw [sizeLine_eq]; show (lvs'.length + 1) + 1 ≤ _; rw [hlv.length]; omega)
        intro D3 h12 F12 N12 l12
        clear F11 N11 hA11 hD11 hle
        have hR12 := (N12 _ (.tail _ (.tail _ (.tail _ (.tail _ (.head _)))))).1
        have hD12 := (N12 _ (.head _)).1
        refine ne_same (vs := rvs') (us := (_ :: lvs') ++ [_]) (ls := rowOf lbs') ⟨_, hR12, rfl, _, rfl⟩ ⟨_, hD12, rfl, _, rfl⟩ hrv ((SV.cons hlv).append (.cons .nil)) (by show callerA.units + _ < cLine; decide +kernel) ?_
        k_steps
        dsimp only
        refine wpC_execs_nil ?_
        refine ⟨_, _, _, _, rfl, F12, ?_, its', lbs', rs', lvs', rvs', n1', n2', n3', pl', st', ts', rfl, hpl, hits, hlv, hrv, hlab, hok, hst, hnd, rfl, rfl, rfl, rfl, rfl, trivial⟩
        intro p hp
        refine N12 p ?_
        simp only [ledg, List.mem_cons, List.mem_append] at hp ⊢
        rcases hp with h | h | h | h | h | h <;> simp [h]
    · rintro i m₁ nx ⟨its, lbs, rs, lvs, rvs, n1, n2, n3, pl, st, ts, rfl, hpl, _⟩ p hp e
      have e' : p.1 = Bd := Eq.trans e hBd
      have lt3 : @LT.lt Nat _ aR Bd := Nat.lt_trans hRD hDh
      have lt2 : @LT.lt Nat _ aL Bd := Nat.lt_trans d3 lt3
      have lt1 : @LT.lt Nat _ aI Bd := Nat.lt_trans d2 lt2
      have lt0 : @LT.lt Nat _ aF Bd := Nat.lt_trans d1 lt1
      simp only [ledg, List.mem_cons] at hp
      rcases hp with rfl | rfl | rfl | rfl | hp
      · exact Nat.ne_of_lt lt3 e'
      · exact Nat.ne_of_lt lt2 e'
      · exact Nat.ne_of_lt lt1 e'
      · exact Nat.ne_of_lt lt0 e'
      · exact Nat.ne_of_gt (hpl p hp) e'
    · rintro m₁ nx g tg ⟨its, lbs, rs, lvs, rvs, n1, n2, n3, pl, st, ts, rfl, hpl, hits, hlv, hrv, hlab, hok, hst, hnd, P1⟩ F1 N1
      dsimp only
      refine wpC_execs_any ?_
      k_steps
      exact k _ _ fun b o e => F1.keep b o e
end Mine
end
section
open PySem PySem.W PyProof.Rows PySem.Calls
set_option Elab.async false
set_option linter.unusedVariables false
set_option maxRecDepth 100000
namespace Mine

set_option maxHeartbeats 8000000 in
theorem law01 : Challenge.rw_ph0088_01.Holds := by
  refine hd ?_
  intro w s₀ s₁ mg mb G Y fa o pm cd doc dV kV ho hd hcd hD hmg hg args vals as hpre hlay hrd hwl hlo
  have KX := kIn_of Y
  refine Ground.open G ?_
  intro T B D TE TW
  have e108 : mg (Str.ofString "law") = some (.ref 108) := mg_of (K := Mine.hd.heap_39 w.params) KX T.g rfl
  have hfa : fa = 108 := by
    have h1 : mg (Str.ofString "law") = some (.ref fa) := hmg
    rw [e108] at h1; injection h1 with h1; injection h1 with h1; exact h1.symm
  subst hfa
  wrow_args hpre hlay hrd hwl hlo
  rename_i ns hs _ _ _ _ _ _ sc vs _ hsc _ _ _ hI _ hc1 _
  refine wpC_call (main01 ⟨KX, topRead_of T⟩ hsc hI (by omega) ?_)
  intro h' tk' hk
  refine ⟨.inl ⟨.bool true, .bool true, [], rfl, ?_, ?_, ?_, ?_⟩, .of_keep hk, rfl, ?_⟩
  · intro cls; rfl
  · exact .bool _
  · with_unfolding_all rfl
  · intro _; exact ⟨List.nodup_nil, fun a h => by cases h⟩
  · exact .of_eq hg
end Mine
end

theorem PySem.Challenge.cw_ph0088_01_holds : PySem.Challenge.rw_ph0088_01.Holds := by
  exact Mine.law01
