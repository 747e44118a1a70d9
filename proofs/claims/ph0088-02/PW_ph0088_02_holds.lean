import PyProof.Rows.All
import Wide.All
import OpenK.AllK
import Wide.FinOn
import KE.KLcPair
import KE.KLcTest
import KE.KUnpack
import KE.KSortTup
import KE.KFind
import KE.KListLetter
import KE.RegKLenAny
import PySem.Challenge.RW_ph0088_02
set_option Elab.async false
section
open PySem PySem.W PyProof.Rows
set_option Elab.async false
namespace Mine
open PySem.Sre

noncomputable def reCode : Array Nat := #[14, 4, 0, 1, 4294967295, 17, 0, 7, 14, 24, 10, 1, 4294967295, 13, 5, 22, 48, 57, 0, 1, 15, 17, 15, 13, 11, 9, 0, 26624, 2147483648, 0, 0, 0, 0, 0, 0, 15, 2, 0, 17, 1, 1]

noncomputable def isSep (c : Nat) : Bool := decide (c < 256) && (reCode.getD (25 + (1 + c / 32)) 0).testBit (c % 32)

theorem runFor_done (n : Nat) (m : M) (h : m.outcome.isSome = true) : m.runFor n = m := by
  cases n with
  | zero => rfl
  | succ n => rw [M.runFor, if_pos h]

theorem runFor_succ (n : Nat) (m : M) : m.runFor (n + 1) = m.step.runFor n := by
  rw [M.runFor]
  split
  · rename_i h
    have e : m.step = m := by unfold M.step; rw [if_pos h]
    rw [e, runFor_done n m h]
  · rfl

theorem runFor_add (a b : Nat) (m : M) : m.runFor (a + b) = (m.runFor a).runFor b := by
  induction a generalizing m with
  | zero => rw [Nat.zero_add]; rfl
  | succ a ih => rw [Nat.succ_add, runFor_succ, ih, runFor_succ]

theorem drive_wp {M' : Model} {A : PySem.Around} {E : Value → Shared → Prop} {s : Shared} {Q : M → Shared → Prop} :
    ∀ (turns k : Nat) (m : M), (m.runFor k).outcome.isSome = true → k ≤ 4 * turns → 0 < turns → Q (m.runFor k) s →
      wpAny M' A (Builtin.Re.reDrive turns m) Q E s
  | 0, _, _, _, _, h0, _ => absurd h0 (Nat.lt_irrefl _)
  | turns + 1, k, m, hk, hle, _, hq => by
    unfold Builtin.Re.reDrive
    show wpAny M' A (if (m.runFor 4).outcome.isSome then pure (m.runFor 4) else do rule "sre.turn"; Builtin.Re.reDrive turns (m.runFor 4)) Q E s
    by_cases h4 : (m.runFor 4).outcome.isSome = true
    · rw [if_pos h4]
      have e : m.runFor 4 = m.runFor k := by
        rcases Nat.le_total k 4 with hk4 | hk4
        · obtain ⟨d, hd⟩ := Nat.exists_eq_add_of_le hk4
          rw [hd, runFor_add, runFor_done _ _ hk]
        · obtain ⟨d, rfl⟩ := Nat.exists_eq_add_of_le hk4
          rw [runFor_add, runFor_done _ _ h4]
      rw [e]
      exact wpAny_pure hq
    · rw [if_neg h4]
      refine wpAny_bind (wpAny_rule ?_)
      have hk4 : 4 < k := by
        rcases Nat.lt_or_ge 4 k with h | h
        · exact h
        · exfalso
          obtain ⟨d, hd⟩ := Nat.exists_eq_add_of_le h
          rw [hd, runFor_add, runFor_done _ _ hk] at h4
          exact h4 hk
      obtain ⟨d, rfl⟩ := Nat.exists_eq_add_of_le (Nat.le_of_lt hk4)
      rw [runFor_add] at hk hq
      refine drive_wp turns d _ hk (by omega) (by omega) hq

theorem rules_wp {M' : Model} {A : PySem.Around} {E : Value → Shared → Prop} {s : Shared} {body : Nat → PUnit → Sem (ForInStep PUnit)} {Q : PUnit → Shared → Prop}
    (hb : ∀ i r (R : ForInStep PUnit → Shared → Prop), R (.yield ⟨⟩) s → wpAny M' A (body i r) R E s) :
    ∀ l : List Nat, Q ⟨⟩ s → wpAny M' A (forIn l PUnit.unit body) Q E s
  | [], h => by rw [List.forIn_nil]; exact wpAny_pure h
  | a :: l, h => by
    rw [List.forIn_cons]
    exact wpAny_bind (hb a _ _ (rules_wp hb l h))

theorem runToEnd_wp {M' : Model} {A : PySem.Around} {E : Value → Shared → Prop} {s : Shared} {Q : Option M → Shared → Prop} (k : Nat) (m mf : M) (e : m.runFor k = mf) (hk : k ≤ 2 ^ 64)
    (h : (mf.outcome = some .matched ∧ Q (some mf) s) ∨ (mf.outcome = some .failed ∧ Q none s)) :
    wpAny M' A (Builtin.Re.reRunToEnd m) Q E s := by
  unfold Builtin.Re.reRunToEnd
  have ho : (m.runFor k).outcome.isSome = true := by rw [e]; rcases h with ⟨h, _⟩ | ⟨h, _⟩ <;> rw [h] <;> rfl
  refine wpAny_bind (drive_wp _ k m ho (by omega) (by decide) ?_)
  rw [e]
  refine wpAny_bind ?_
  refine rules_wp (fun i r R hR => ?_) _ ?_
  · split
    · exact wpAny_bind (wpAny_rule (wpAny_pure hR))
    · exact wpAny_pure hR
  rcases h with ⟨h, hq⟩ | ⟨h, hq⟩
  · rw [h]; exact wpAny_pure hq
  · rw [h]; exact wpAny_pure hq
end Mine
end
section
open PySem PySem.W PyProof.Rows
set_option Elab.async false
namespace Mine
open PySem.Sre

@[reducible] noncomputable def reM (t : Array Nat) (s h : Nat) (o : Bool) (mk : Array (Option Nat)) (fr : List Sre.Frame) (wt pc pos : Nat) (lm li : Int) (ans : Option Bool) (sn : Sre.Seen) (oc : Option Sre.Outcome) : M :=
  { code := reCode, text := t, lim := t.size, start := s, lastStart := t.size, wholeText := false, mustAdvance := false, pc := pc, pos := pos, handed := h, outermost := o, marks := mk, lastmark := lm, lastindex := li, loops := #[], inner := none, frames := fr, weight := wt, answer := ans, seen := sn, outcome := oc }

section
variable {t : Array Nat} {s h pos wt : Nat} {o : Bool} {mk : Array (Option Nat)} {fr : List Sre.Frame} {lm li : Int} {sn : Sre.Seen}

theorem st_mark0 : (reM t s h o mk fr wt 5 pos (-1) li none sn none).step = reM t s h o (mk.setIfInBounds 0 (some pos)) fr wt 7 pos 0 li none (sn.add 17) none := rfl
theorem st_branch : (reM t s h o mk fr 1 7 pos 0 li none sn none).step =
  reM t s pos o mk ({ wait := .nextBranch, pc := 8, pos := pos, outermost := o, kept := { lastmark := 0, lastindex := li } } :: fr) 2 9 pos 0 li none (sn.add 7) none := rfl
theorem st_rep_none (hp : ¬ pos < t.size) : (reM t s h o mk fr wt 9 pos lm li none sn none).step = reM t s h o mk fr wt 9 pos lm li (some false) (sn.add 24) none := by
  show (if ((1 : Nat) : Int) > (t.size : Int) - pos then _ else _) = _
  rw [if_pos (by omega)]
  rfl
theorem st_rep {n : Nat} {sn' : Sre.Seen} (hp : pos < t.size) (hr : Sre.run reCode t 13 (min 4294967295 ((t.size : Int) - pos).toNat) pos 0 ((sn.add 24).add 13) = .ok (n, sn')) :
    (reM t s h o mk fr wt 9 pos lm li none sn none).step = if n < 1 then reM t s h o mk fr wt 9 pos lm li (some false) sn' none
      else ({ reM t s h o mk fr wt 9 (pos + n) lm li none sn' none with : M }).afterRun .giveBack n { lastmark := lm, lastindex := li } := by
  show (if ((1 : Nat) : Int) > (t.size : Int) - pos then _ else _) = _
  rw [if_neg (by omega)]
  show (match Sre.run reCode t 13 (min 4294967295 ((t.size : Int) - pos).toNat) pos 0 ((sn.add 24).add 13) with | .error why => _ | .ok (n, seen) => _) = _
  rw [hr]
  rfl
theorem st_after {n : Nat} : ({ reM t s h o mk fr 2 9 pos lm li none sn none with : M }).afterRun .giveBack n { lastmark := lm, lastindex := li } =
    reM t s pos o mk ({ wait := .giveBack, pc := 9, pos := pos, outermost := o, count := n, kept := { lastmark := lm, lastindex := li } } :: fr) 3 20 pos lm li none sn none := rfl
theorem st_jump20 : (reM t s h o mk fr wt 20 pos lm li none sn none).step = reM t s h o mk fr wt 38 pos lm li none (sn.add 15) none := rfl
theorem st_jump35 : (reM t s h o mk fr wt 35 pos lm li none sn none).step = reM t s h o mk fr wt 38 pos lm li none (sn.add 15) none := rfl
theorem st_mark1 : (reM t s h o mk fr wt 38 pos 0 li none sn none).step = reM t s h o (mk.setIfInBounds 1 (some pos)) fr wt 40 pos 1 1 none (sn.add 17) none := by
  have e : (reM t s h o mk fr wt 38 pos 0 li none sn none).step = (M.mark (reM t s h o mk fr wt 38 pos 0 li none (sn.add 17) none) 1) := rfl
  rw [e]
  unfold M.mark
  have e2 : max (0 : Int) 1 = 1 := by decide
  simp
  exact e2
theorem st_success : (reM t s h o mk fr wt 40 pos lm li none sn none).step = reM t s pos o mk fr wt 40 pos lm li (some true) (sn.add 1) none := by
  show (if (o && ((false && _) || (false && _))) = true then _ else _) = _
  rw [if_neg (by simp)]
  rfl
theorem st_in_none (hp : ¬ pos < t.size) : (reM t s h o mk fr wt 23 pos lm li none sn none).step = reM t s h o mk fr wt 23 pos lm li (some false) (sn.add 13) none := by
  show (if pos ≥ t.size then _ else _) = _
  rw [if_pos (by omega)]
  rfl
theorem st_in {b : Bool} {sn' : Sre.Seen} (hp : pos < t.size) (hr : Sre.accepts reCode 23 (t.getD pos 0) (sn.add 13) = .ok (b, sn')) : (reM t s h o mk fr wt 23 pos lm li none sn none).step =
    if b then reM t s h o mk fr wt 35 (pos + 1) lm li none sn' none else reM t s h o mk fr wt 23 pos lm li (some false) sn' none := by
  show (if pos ≥ t.size then _ else _) = _
  rw [if_neg (by omega)]
  show (match Sre.accepts reCode 23 (t.getD pos 0) (sn.add 13) with | .error why => _ | .ok (false, seen) => _ | .ok (true, seen) => _) = _
  rw [hr]
  cases b <;> rfl
theorem st_nb8 {o' : Bool} {pc' : Nat} {pos' : Nat} {lm' li' : Int} : (reM t s h o mk ({ wait := .nextBranch, pc := 8, pos := pos, outermost := o', kept := { lastmark := 0, lastindex := -1 } } :: fr) 2 pc' pos' lm' li' (some false) sn none).step =
    reM t s pos o' mk ({ wait := .nextBranch, pc := 22, pos := pos, outermost := o', kept := { lastmark := 0, lastindex := -1 } } :: fr) 2 23 pos 0 (-1) none sn none := rfl
theorem st_nb22 {o' : Bool} {pc' : Nat} {pos' : Nat} {lm' li' : Int} : (reM t s h o mk ({ wait := .nextBranch, pc := 22, pos := pos, outermost := o', kept := { lastmark := 0, lastindex := -1 } } :: fr) 2 pc' pos' lm' li' (some false) sn none).step =
    reM t s h o' mk fr 1 22 pos 0 (-1) (some false) sn none := rfl
theorem st_ns {o' : Bool} {pc' : Nat} {pos' : Nat} {lm' li' : Int} (hp : pos < t.size) : (reM t s h o mk [{ wait := .nextStart, pc := 5, pos := pos, outermost := o' }] 1 pc' pos' lm' li' (some false) sn none).step =
    reM t (pos + 1) (pos + 1) false mk [{ wait := .nextStart, pc := 5, pos := pos + 1, outermost := false }] 1 5 (pos + 1) (-1) (-1) none sn none := by
  show (if pos < t.size then _ else _) = _
  rw [if_pos hp]
  rfl
theorem st_ns_end {o' : Bool} {pc' : Nat} {pos' : Nat} {lm' li' : Int} (hp : ¬ pos < t.size) : (reM t s h o mk [{ wait := .nextStart, pc := 5, pos := pos, outermost := o' }] 1 pc' pos' lm' li' (some false) sn none).step =
    reM t s h o' mk [] 0 5 pos lm' li' (some false) sn none := by
  show (if pos < t.size then _ else _) = _
  rw [if_neg hp]
  rfl
theorem st_yes {f : Sre.Frame} (hw : f.wait = .nextStart ∨ f.wait = .nextBranch ∨ f.wait = .giveBack) (hk : f.kept.marks.size = 0) {pc' : Nat} {pos' : Nat} {lm' li' : Int} :
    (reM t s h o mk (f :: fr) (wt + 1) pc' pos' lm' li' (some true) sn none).step = reM t s h f.outermost mk fr wt f.pc f.pos lm' li' (some true) sn none := by
  obtain ⟨w, pc, ps, om, c, k, l, b⟩ := f
  show (M.resume { reM t s h o mk (_ :: fr) (wt + 1) pc' pos' lm' li' (some true) sn none with answer := none, frames := fr, weight := wt + 1 - (1 + k.marks.size), pc := pc, pos := ps, outermost := om } _ true) = _
  simp only at hk hw
  rw [show wt + 1 - (1 + k.marks.size) = wt by omega]
  rcases hw with rfl | rfl | rfl <;> rfl
theorem st_end {b : Bool} : (reM t s h o mk [] wt 5 pos lm li (some b) sn none).step = reM t s h o mk [] wt 5 pos lm li (some b) sn (some (if b then .matched else .failed)) := rfl
end
end Mine
end
section
open PySem PySem.W PyProof.Rows
set_option Elab.async false
namespace Mine
open PySem.Sre

theorem acc_digit (c : Nat) (sn : Sre.Seen) : ∃ sn', Sre.accepts reCode 13 c sn = .ok (Sre.isDigit c, sn') := by
  show ∃ sn', Sre.inSet reCode c 41 15 true sn = .ok (Sre.isDigit c, sn')
  rw [Sre.inSet]
  show ∃ sn', (if (decide (48 ≤ c) && decide (c ≤ 57)) = true then (Except.ok (true, sn.add 22) : Except String (Bool × Sre.Seen)) else Sre.inSet reCode c 40 18 true (sn.add 22)) = .ok (Sre.isDigit c, sn')
  unfold Sre.isDigit
  cases hb : (decide (48 ≤ c) && decide (c ≤ 57)) with
  | true => exact ⟨_, rfl⟩
  | false => exact ⟨_, rfl⟩

theorem acc_sep (c : Nat) (sn : Sre.Seen) : ∃ sn', Sre.accepts reCode 23 c sn = .ok (isSep c, sn') := by
  show ∃ sn', Sre.inSet reCode c 41 25 true sn = .ok (isSep c, sn')
  rw [Sre.inSet]
  show ∃ sn', (if (decide (c < 256) && (reCode.getD (25 + (1 + c / 32)) 0).testBit (c % 32)) = true then (Except.ok (true, sn.add 9) : Except String (Bool × Sre.Seen)) else Sre.inSet reCode c 40 34 true (sn.add 9)) = .ok (isSep c, sn')
  unfold isSep
  cases hb : (decide (c < 256) && (reCode.getD (25 + (1 + c / 32)) 0).testBit (c % 32)) with
  | true => exact ⟨_, rfl⟩
  | false => exact ⟨_, rfl⟩

/-- how many digits stand from p on, of n places at most -/
noncomputable def digs (t : Array Nat) : Nat → Nat → Nat
  | 0, _ => 0
  | n + 1, p => if Sre.isDigit (t.getD p 0) then digs t n (p + 1) + 1 else 0

theorem run_digs (t : Array Nat) : ∀ (n p f : Nat) (sn : Sre.Seen), ∃ sn', Sre.run reCode t 13 n p f sn = .ok (f + digs t n p, sn')
  | 0, p, f, sn => ⟨sn, rfl⟩
  | n + 1, p, f, sn => by
    obtain ⟨sn1, h1⟩ := acc_digit (t.getD p 0) sn
    rw [Sre.run, h1]
    show ∃ sn', (if Sre.isDigit (t.getD p 0) = true then Sre.run reCode t 13 n (p + 1) (f + 1) sn1 else .ok (f, sn1)) = .ok (f + digs t (n + 1) p, sn')
    rw [digs]
    split
    · rename_i hd
      obtain ⟨sn2, h2⟩ := run_digs t n (p + 1) (f + 1) sn1
      exact ⟨sn2, by rw [h2, Nat.add_assoc, Nat.add_comm 1]⟩
    · exact ⟨sn1, rfl⟩

noncomputable abbrev digsAll (t : Array Nat) (p : Nat) : Nat := digs t (t.size - p) p

theorem run_all {t : Array Nat} (hs : t.size < 4294967295) (p : Nat) (sn : Sre.Seen) : ∃ sn', Sre.run reCode t 13 (min 4294967295 ((t.size : Int) - p).toNat) p 0 sn = .ok (digsAll t p, sn') := by
  have e : min 4294967295 ((t.size : Int) - p).toNat = t.size - p := by omega
  rw [e]
  obtain ⟨sn', h⟩ := run_digs t (t.size - p) p 0 sn
  exact ⟨sn', by rw [h, Nat.zero_add]⟩

/-- a fresh attempt at place p -/
noncomputable abbrev atM (t : Array Nat) (p : Nat) (o : Bool) (mk : Array (Option Nat)) (sn : Sre.Seen) : M :=
  reM t p p o mk [{ wait := .nextStart, pc := 5, pos := p, outermost := o }] 1 5 p (-1) (-1) none sn none

/-- what a found match says -/
structure Hit (t : Array Nat) (b e : Nat) (m : M) : Prop where
  out : m.outcome = some .matched
  start : m.start = b
  handed : m.handed = e
  lm : m.lastmark = 1
  marks : m.marks = #[some b, some e]

theorem step_n {m m' : M} {n : Nat} {mf : M} (h : m.step = m') (r : m'.runFor n = mf) : m.runFor (n + 1) = mf := by rw [runFor_succ, h]; exact r

theorem hit_digits {t : Array Nat} {p : Nat} {o : Bool} {x y : Option Nat} {sn : Sre.Seen} (hs : t.size < 4294967295) (hp : p < t.size) (hd : Sre.isDigit (t.getD p 0) = true) :
    ∃ mf, (atM t p o #[x, y] sn).runFor 10 = mf ∧ Hit t p (p + digsAll t p) mf := by
  have hn : 1 ≤ digsAll t p := by
    show 1 ≤ digs t (t.size - p) p
    obtain ⟨k, hk⟩ : ∃ k, t.size - p = k + 1 := ⟨t.size - p - 1, by omega⟩
    rw [hk, digs, if_pos hd]
    exact Nat.succ_le_succ (Nat.zero_le _)
  obtain ⟨sn', hr⟩ := run_all hs p (((sn.add 17).add 7).add 24 |>.add 13)
  refine ⟨_, step_n st_mark0 (step_n st_branch (step_n ((st_rep hp hr).trans ((if_neg (by omega)).trans st_after)) (step_n st_jump20 (step_n st_mark1 (step_n st_success
    (step_n (st_yes (.inr (.inr rfl)) rfl) (step_n (st_yes (.inr (.inl rfl)) rfl) (step_n (st_yes (.inl rfl) rfl) (step_n st_end rfl))))))))), ?_⟩
  exact ⟨rfl, rfl, rfl, rfl, rfl⟩

theorem hit_sep {t : Array Nat} {p : Nat} {o : Bool} {x y : Option Nat} {sn : Sre.Seen} (hs : t.size < 4294967295) (hp : p < t.size) (hd : Sre.isDigit (t.getD p 0) = false) (hc : isSep (t.getD p 0) = true) :
    ∃ mf, (atM t p o #[x, y] sn).runFor 11 = mf ∧ Hit t p (p + 1) mf := by
  have hn : digsAll t p = 0 := by
    show digs t (t.size - p) p = 0
    obtain ⟨k, hk⟩ : ∃ k, t.size - p = k + 1 := ⟨t.size - p - 1, by omega⟩
    rw [hk, digs, if_neg (by rw [hd]; exact Bool.false_ne_true)]
  obtain ⟨sn', hr⟩ := run_all hs p (((sn.add 17).add 7).add 24 |>.add 13)
  obtain ⟨sn2, ha⟩ := acc_sep (t.getD p 0) (sn'.add 13)
  rw [hc] at ha
  refine ⟨_, step_n st_mark0 (step_n st_branch (step_n ((st_rep hp hr).trans (if_pos (by omega))) (step_n st_nb8 (step_n ((st_in hp ha).trans (if_pos rfl)) (step_n st_jump35 (step_n st_mark1 (step_n st_success
    (step_n (st_yes (.inr (.inl rfl)) rfl) (step_n (st_yes (.inl rfl) rfl) (step_n st_end rfl)))))))))), ?_⟩
  exact ⟨rfl, rfl, rfl, rfl, rfl⟩

theorem miss_next {t : Array Nat} {p : Nat} {o : Bool} {x y : Option Nat} {sn : Sre.Seen} (hs : t.size < 4294967295) (hp : p < t.size) (hd : Sre.isDigit (t.getD p 0) = false) (hc : isSep (t.getD p 0) = false) :
    ∃ x' sn', (atM t p o #[x, y] sn).runFor 7 = atM t (p + 1) false #[x', y] sn' := by
  have hn : digsAll t p = 0 := by
    show digs t (t.size - p) p = 0
    obtain ⟨k, hk⟩ : ∃ k, t.size - p = k + 1 := ⟨t.size - p - 1, by omega⟩
    rw [hk, digs, if_neg (by rw [hd]; exact Bool.false_ne_true)]
  obtain ⟨sn', hr⟩ := run_all hs p (((sn.add 17).add 7).add 24 |>.add 13)
  obtain ⟨sn2, ha⟩ := acc_sep (t.getD p 0) (sn'.add 13)
  rw [hc] at ha
  exact ⟨some p, _, step_n st_mark0 (step_n st_branch (step_n ((st_rep hp hr).trans (if_pos (by omega))) (step_n st_nb8 (step_n ((st_in hp ha).trans (if_neg (by simp))) (step_n st_nb22 (step_n (st_ns hp) rfl))))))⟩

theorem miss_end {t : Array Nat} {p : Nat} {o : Bool} {x y : Option Nat} {sn : Sre.Seen} (hp : ¬ p < t.size) :
    ∃ mf, (atM t p o #[x, y] sn).runFor 8 = mf ∧ mf.outcome = some .failed := by
  refine ⟨_, step_n st_mark0 (step_n st_branch (step_n (st_rep_none hp) (step_n st_nb8 (step_n (st_in_none hp) (step_n st_nb22 (step_n (st_ns_end hp) (step_n st_end rfl))))))), rfl⟩

/-- the place at which the search from p ends: the first digit or sign, or the end -/
noncomputable def firstAt (t : Array Nat) : Nat → Nat → Nat
  | 0, p => p
  | n + 1, p => if Sre.isDigit (t.getD p 0) || isSep (t.getD p 0) then p else firstAt t n (p + 1)

noncomputable def hitEnd (t : Array Nat) (q : Nat) : Nat := if Sre.isDigit (t.getD q 0) then q + digsAll t q else q + 1

theorem search_run (t : Array Nat) (hs : t.size < 4294967295) : ∀ (n p : Nat) (o : Bool) (x y : Option Nat) (sn : Sre.Seen), p + n = t.size →
    ∃ k mf, k ≤ 7 * n + 11 ∧ (atM t p o #[x, y] sn).runFor k = mf ∧
      ((firstAt t n p < t.size ∧ Hit t (firstAt t n p) (hitEnd t (firstAt t n p)) mf) ∨ (¬ firstAt t n p < t.size ∧ mf.outcome = some .failed))
  | 0, p, o, x, y, sn, e => by
    obtain ⟨mf, h1, h2⟩ := miss_end (t := t) (p := p) (o := o) (x := x) (y := y) (sn := sn) (by omega)
    exact ⟨8, mf, by omega, h1, .inr ⟨by rw [firstAt]; omega, h2⟩⟩
  | n + 1, p, o, x, y, sn, e => by
    have hp : p < t.size := by omega
    cases hd : Sre.isDigit (t.getD p 0) with
    | true =>
      obtain ⟨mf, h1, h2⟩ := hit_digits (t := t) (p := p) (o := o) (x := x) (y := y) (sn := sn) hs hp hd
      refine ⟨10, mf, by omega, h1, .inl ?_⟩
      rw [firstAt, hd, Bool.true_or, if_pos rfl, hitEnd, hd, if_pos rfl]
      exact ⟨hp, h2⟩
    | false =>
      cases hc : isSep (t.getD p 0) with
      | true =>
        obtain ⟨mf, h1, h2⟩ := hit_sep (t := t) (p := p) (o := o) (x := x) (y := y) (sn := sn) hs hp hd hc
        refine ⟨11, mf, by omega, h1, .inl ?_⟩
        rw [firstAt, hd, hc, Bool.false_or, if_pos rfl, hitEnd, hd, if_neg (by simp)]
        exact ⟨hp, h2⟩
      | false =>
        obtain ⟨x', sn', h1⟩ := miss_next (t := t) (p := p) (o := o) (x := x) (y := y) (sn := sn) hs hp hd hc
        obtain ⟨k, mf, hk, h2, h3⟩ := search_run t hs n (p + 1) false x' y sn' (by omega)
        refine ⟨7 + k, mf, by omega, by rw [runFor_add, h1, h2], ?_⟩
        rw [firstAt, hd, hc, Bool.false_or, if_neg (by simp)]
        exact h3
end Mine
end
section
open PySem PySem.W PyProof.Rows
set_option Elab.async false
set_option maxRecDepth 100000
namespace Mine
open PySem.Sre

theorem slot_re_split : Slot "re.Pattern" "split" "re.Pattern.split" :=
  .of (owner := "re.Pattern") (n := "split") (by rw [typeLookup_type, builtinLookup_eq_fast]; kernel_rfl) (by decide +kernel) (by decide +kernel) (by decide +kernel)
    (by first | exact .inl (by decide +kernel) | exact .inr (by decide +kernel)) (by rw [isSubtype_type]; kernel_rfl)
theorem entry_re_split : entryFor table "re.Pattern.split" = some Builtin.«re.Pattern.split» := entryFor_of_tree (by kernel_rfl)
theorem plainAttrs_re : PlainAttrs "re.Pattern" :=
  ⟨⟨"object.__getattribute__", by rw [typeLookup_type, builtinLookup_eq_fast]; kernel_rfl, by decide +kernel⟩, by rw [typeLookup_type, builtinLookup_eq_fast]; kernel_rfl⟩
theorem ty_re_split : typeOf (.builtin "re.Pattern.split") = pure (.type "method_descriptor") := by kernel_rfl
theorem args_re_split (a b : Value) : argsOk "re.Pattern.split" ⟨[a, b], []⟩ := by
  unfold argsOk; kernel_rfl

theorem nextFound_wp {M' : Model} {A : PySem.Around} {E : Value → Shared → Prop} {s : Shared} {Q : Option M → Shared → Prop} {pat str : Value} {t : Array Nat} {k pos₀ : Nat} (p : Nat) (hp : p ≤ t.size) (hs : t.size < 16777217)
    (h : if firstAt t (t.size - p) p < t.size then ∀ mf, Hit t (firstAt t (t.size - p) p) (hitEnd t (firstAt t (t.size - p) p)) mf → Q (some mf) s else Q none s) :
    wpAny M' A (Builtin.Re.reNextFound { pattern := pat, string := str, code := reCode, text := t, kind := k, groups := 1, pos := pos₀, lim := t.size } p false) Q E s := by
  unfold Builtin.Re.reNextFound
  by_cases hpe : p = t.size
  · subst hpe
    have e0 : firstAt t (t.size - t.size) t.size = t.size := by rw [Nat.sub_self]; rfl
    rw [e0, if_neg (Nat.lt_irrefl _)] at h
    refine runToEnd_wp 1 _ _ rfl (by decide) (.inr ⟨?_, h⟩)
    show (M.runFor 1 (Sre.forSearch reCode t 1 t.size t.size false)).outcome = _
    unfold Sre.forSearch
    dsimp only
    rw [if_pos (by simp; exact Nat.zero_lt_one)]
    rfl
  · have hlt : p < t.size := by omega
    have e1 : Sre.forSearch reCode t 1 p t.size false = atM t p true #[none, none] (({} : Sre.Seen).add 14) := by
      unfold Sre.forSearch
      dsimp only
      rw [if_neg (by simp [show (Sre.header reCode).1 = 1 from rfl]; omega)]
      rfl
    obtain ⟨n, hn⟩ : ∃ n, p + n = t.size := ⟨t.size - p, by omega⟩
    have en : t.size - p = n := by omega
    rw [en] at h
    obtain ⟨k', mf, hk', hr, hc⟩ := search_run t (by omega) n p true none none (({} : Sre.Seen).add 14) hn
    refine runToEnd_wp k' _ mf (by rw [← hr]; exact congrArg _ e1) (by omega) ?_
    rcases hc with ⟨h1, h2⟩ | ⟨h1, h2⟩
    · rw [if_pos h1] at h
      exact .inl ⟨h2.out, h mf h2⟩
    · rw [if_neg h1] at h
      exact .inr ⟨h2, h⟩
end Mine
end
section
open PySem PySem.W PyProof.Rows
set_option Elab.async false
set_option maxRecDepth 100000
namespace Mine
open PySem.Sre

/-- values that are these texts -/
inductive SV : List Value → List Str → Prop
  | nil : SV [] []
  | cons {x : Str} {t : Tok} {vs : List Value} {xs : List Str} : SV vs xs → SV (.str x t :: vs) (x :: xs)
theorem SV.append {vs ws : List Value} {xs ys : List Str} (h : SV vs xs) (k : SV ws ys) : SV (vs ++ ws) (xs ++ ys) := by
  induction h with
  | nil => exact k
  | cons _ ih => exact .cons ih
theorem SV.one (x : Str) (t : Tok) : SV [.str x t] [x] := .cons .nil
theorem SV.length {vs : List Value} {xs : List Str} (h : SV vs xs) : vs.length = xs.length := by
  induction h with
  | nil => rfl
  | cons _ ih => simp [ih]

theorem firstAt_ge (t : Array Nat) : ∀ n p, p ≤ firstAt t n p
  | 0, p => Nat.le_refl p
  | n + 1, p => by
    rw [firstAt]; split
    · exact Nat.le_refl p
    · exact Nat.le_trans (Nat.le_succ p) (firstAt_ge t n (p + 1))
theorem digs_le (t : Array Nat) : ∀ n p, digs t n p ≤ n
  | 0, _ => Nat.le_refl _
  | n + 1, p => by
    rw [digs]; split
    · have := digs_le t n (p + 1); omega
    · omega
theorem hitEnd_gt (t : Array Nat) (q : Nat) (hq : q < t.size) : q < hitEnd t q := by
  unfold hitEnd
  by_cases hd : Sre.isDigit (t.getD q 0) = true
  · rw [if_pos hd]
    have : 1 ≤ digs t (t.size - q) q := by
      obtain ⟨k, hk⟩ : ∃ k, t.size - q = k + 1 := ⟨t.size - q - 1, by omega⟩
      rw [hk, digs, if_pos hd]
      exact Nat.succ_le_succ (Nat.zero_le _)
    show q < q + digs t (t.size - q) q
    omega
  · rw [if_neg hd]; omega
theorem hitEnd_le (t : Array Nat) (q : Nat) (hq : q < t.size) : hitEnd t q ≤ t.size := by
  unfold hitEnd
  by_cases hd : Sre.isDigit (t.getD q 0) = true
  · rw [if_pos hd]
    have := digs_le t (t.size - q) q
    show q + digs t (t.size - q) q ≤ t.size
    omega
  · rw [if_neg hd]; omega

noncomputable abbrev ext (t : Array Nat) (b e : Nat) : Str := ⟨t.extract b e⟩
noncomputable abbrev nextQ (t : Array Nat) (st : Nat) : Nat := firstAt t (t.size - st) st
/-- what split hands back -/
noncomputable def toks (t : Array Nat) : Nat → Nat → List Str
  | 0, st => [ext t st t.size]
  | f + 1, st => if nextQ t st < t.size then ext t st (nextQ t st) :: ext t (nextQ t st) (hitEnd t (nextQ t st)) :: toks t f (hitEnd t (nextQ t st)) else [ext t st t.size]

theorem toks_fuel (t : Array Nat) : ∀ f g st, t.size - st ≤ f → t.size - st ≤ g → st ≤ t.size → toks t f st = toks t g st
  | 0, 0, _, _, _, _ => rfl
  | 0, g + 1, st, h1, _, h3 => by
    have e : st = t.size := by omega
    subst e
    have : nextQ t t.size = t.size := by unfold nextQ; rw [Nat.sub_self]; rfl
    rw [toks, toks, if_neg (by rw [this]; exact Nat.lt_irrefl _)]
  | f + 1, 0, st, _, h2, h3 => by
    have e : st = t.size := by omega
    subst e
    have : nextQ t t.size = t.size := by unfold nextQ; rw [Nat.sub_self]; rfl
    rw [toks, toks, if_neg (by rw [this]; exact Nat.lt_irrefl _)]
  | f + 1, g + 1, st, h1, h2, h3 => by
    rw [toks, toks]
    split
    · rename_i hq
      have a := hitEnd_gt t _ hq
      have b := hitEnd_le t _ hq
      have c := firstAt_ge t (t.size - st) st
      have c' : st ≤ nextQ t st := c
      rw [toks_fuel t f g _ (by omega) (by omega) b]
    · rfl

theorem toks_length (t : Array Nat) : ∀ f st, (toks t f st).length ≤ 2 * f + 1
  | 0, st => by simp [toks]
  | f + 1, st => by
    rw [toks]; split
    · have := toks_length t f (hitEnd t (nextQ t st))
      simp only [List.length_cons]; omega
    · simp

noncomputable abbrev SpS := Array Value × Nat × Nat × Bool × Int × Bool

theorem over_loop {M' : Model} {A : PySem.Around} {E : Value → Shared → Prop} {s : Shared} {body : Nat → SpS → Sem (ForInStep SpS)} {R : SpS → Shared → Prop} {z : SpS}
    (hb : ∀ i (R' : ForInStep SpS → Shared → Prop) s, R' (.yield z) s → wpAny M' A (body i z) R' E s) : ∀ (l : List Nat), R z s → wpAny M' A (forIn l z body) R E s
  | [], h => by rw [List.forIn_nil]; exact wpAny_pure h
  | a :: l, h => by rw [List.forIn_cons]; exact wpAny_bind (hb a _ s (over_loop hb l h))

theorem split_loop {M' : Model} {A : PySem.Around} {E : Value → Shared → Prop} {t : Array Nat} {body : Nat → SpS → Sem (ForInStep SpS)} {R : SpS → Shared → Prop}
    (hb : ∀ i out st n (R' : ForInStep SpS → Shared → Prop) s, st ≤ t.size →
      (if nextQ t st < t.size then ∀ t1 t2 tk', R' (.yield ((out.push (.str (ext t st (nextQ t st)) t1)).push (.str (ext t (nextQ t st) (hitEnd t (nextQ t st))) t2), hitEnd t (nextQ t st), hitEnd t (nextQ t st), false, n + 1, false)) { s with toks := tk' }
        else R' (.yield (out, st, st, false, n, true)) s) → wpAny M' A (body i (out, st, st, false, n, false)) R' E s)
    (ho : ∀ i out st n (R' : ForInStep SpS → Shared → Prop) s, R' (.yield (out, st, st, false, n, true)) s → wpAny M' A (body i (out, st, st, false, n, true)) R' E s) :
    ∀ (l : List Nat) (out : Array Value) (st : Nat) (n : Int) (s : Shared) (pre : List Str), st ≤ t.size → t.size - st < l.length → SV out.toList pre →
      (∀ out' st' n' tk' pre', SV out'.toList pre' → pre' ++ [ext t st' t.size] = pre ++ toks t (t.size - st) st → R (out', st', st', false, n', true) { s with toks := tk' }) →
      wpAny M' A (forIn l (out, st, st, false, n, false) body) R E s
  | [], _, _, _, _, _, _, h, _, _ => absurd h (Nat.not_lt_zero _)
  | a :: l, out, st, n, s, pre, hst, hl, hsv, k => by
    rw [List.forIn_cons]
    refine wpAny_bind (hb a out st n _ s hst ?_)
    have et : toks t (t.size - st) st = toks t (t.size - st + 1) st := toks_fuel t _ _ st (Nat.le_refl _) (Nat.le_succ _) hst
    rw [et, toks] at k
    by_cases hq : nextQ t st < t.size
    · rw [if_pos hq]
      intro t1 t2 tk'
      have a1 := hitEnd_gt t _ hq
      have b1 := hitEnd_le t _ hq
      have c1 : st ≤ nextQ t st := firstAt_ge t (t.size - st) st
      rw [if_pos hq] at k
      refine split_loop hb ho l _ _ (n + 1) { s with toks := tk' } (pre ++ [ext t st (nextQ t st), ext t (nextQ t st) (hitEnd t (nextQ t st))]) b1 (by simp only [List.length_cons] at hl; omega) ?_ ?_
      · simp only [Array.toList_push, List.append_assoc]
        exact hsv.append (.cons (.cons .nil))
      · intro out' st' n' tk2 pre' h1 h2
        refine k out' st' n' tk2 pre' h1 ?_
        rw [h2, List.append_assoc, toks_fuel t (t.size - hitEnd t (nextQ t st)) (t.size - st) _ (Nat.le_refl _) (by omega) b1]
        rfl
    · rw [if_neg hq]
      rw [if_neg hq] at k
      exact over_loop (fun i R' s' h => ho i _ _ _ R' s' h) l (k out st n s.toks pre hsv rfl)

noncomputable def patObj (tk₁ tk₂ : Tok) (ca : Addr) : Obj := { cls := .type "re.Pattern", data := .fields #[.str (Str.ofString "([0-9]+|[._+-])") tk₁, .int 32 tk₂, .int 1 0, .none, .none, .ref ca, .int 0 0] }
noncomputable def codeVals : Array Value := #[.int 14 0, .int 4 0, .int 0 0, .int 1 0, .int 4294967295 0, .int 17 0, .int 0 0, .int 7 0, .int 14 0, .int 24 0, .int 10 0, .int 1 0, .int 4294967295 0, .int 13 0, .int 5 0, .int 22 0, .int 48 0, .int 57 0, .int 0 0, .int 1 0, .int 15 0, .int 17 0, .int 15 0, .int 13 0, .int 11 0, .int 9 0, .int 0 0, .int 26624 0, .int 2147483648 0, .int 0 0, .int 0 0, .int 0 0, .int 0 0, .int 0 0, .int 0 0, .int 15 0, .int 2 0, .int 0 0, .int 17 0, .int 1 0, .int 1 0]
noncomputable def codeTup : Obj := { cls := .type "tuple", data := .seq codeVals }

theorem code_back : Array.map (fun x : Int => x.toNat) (Array.map Builtin.Re.reRawOf ((some codeVals).getD #[])) = reCode := by decide +kernel

theorem slice_wp {M' : Model} {A : PySem.Around} {E : Value → Shared → Prop} {s : Shared} {Q : Value → Shared → Prop} {t : Array Nat} {b e : Nat} (hs : t.size ≤ 1000) (h : Q (.str (ext t b e) s.toks) { s with toks := s.toks + 1 }) :
    wpAny M' A (Builtin.Re.reSlice t 0 b e) Q E s := by
  unfold Builtin.Re.reSlice
  rw [if_pos (by rfl)]
  refine wpAny_mkStr ?_ ?_
  all_goals first | exact h | skip
  show (t.extract b e).size ≤ sizeLine
  rw [Array.size_extract, sizeLine_eq]
  omega

set_option maxHeartbeats 1000000 in
theorem split_wp {prog : Program} {w : World} {A : PySem.Around} {E : Value → Shared → Prop} {s : Shared} {pa ca : Addr} {t1 t2 tk : Tok} {x : Str} {Q : Value → Shared → Prop}
    (hp : s.heap.get? pa = some (patObj t1 t2 ca)) (hc : s.heap.get? ca = some codeTup) (hx : x.cps.size ≤ 1000)
    (h : ∀ vs tk', SV vs (toks x.cps x.cps.size 0) → Q (.ref s.heap.objs.size) { s with heap := s.heap.push { cls := .type "list", data := .seq vs.toArray }, toks := tk' }) :
    wpAny (model prog w) A (Builtin.«re.Pattern.split» ⟨[.ref pa, .str x tk], []⟩) (fun fin s' => ∃ v, fin = .done (.ret v) ∧ Q v s') E s := by
  unfold Builtin.«re.Pattern.split»
  obtain ⟨hp', g, d, tk₀, os⟩ := s
  iterate 76 wp_step
  rw [code_back]
  refine split_loop (t := x.cps) (pre := []) ?hb ?ho _ _ _ _ _ ?h0 ?h1 ?h2 ?hR
  case h0 => exact Nat.zero_le _
  case h1 => rw [List.length_range]; show x.cps.size - 0 < 2 * x.cps.size + 3; omega
  case h2 => exact .nil
  case ho => intro i out st n R' s' h'; exact wpAny_pure h'
  case hb =>
    intro i out st n R' s' hst h'
    dsimp only
    rw [if_pos (by rfl), if_neg (by simp)]
    refine wpAny_bind (nextFound_wp (t := x.cps) st hst (by omega) ?_)
    by_cases hq : nextQ x.cps st < x.cps.size
    · rw [if_pos hq] at h' ⊢
      intro mf hit
      dsimp only
      refine wpAny_bind (slice_wp hx ?_)
      refine wpAny_bind ?_
      have e1 : Builtin.Re.reRawNat (#[Value.str (Str.ofString "([0-9]+|[._+-])") t1, Value.int 32 t2, Value.int 1 0, Value.none, Value.none, Value.ref ca, Value.int 0 0].getD 2 Value.none) = 1 := rfl
      rw [e1, show List.range 1 = [0] from rfl, List.forIn_cons]
      refine wpAny_bind (wpAny_bind ?_)
      unfold Builtin.Re.reMachineGroup
      rw [hit.lm, if_neg (by simp), hit.marks]
      show wpAny (model prog w) A (if hitEnd x.cps (nextQ x.cps st) < nextQ x.cps st then Builtin.Re.reWrongSpan else Builtin.Re.reSlice x.cps 0 (nextQ x.cps st) (hitEnd x.cps (nextQ x.cps st))) _ _ _
      have a1 := hitEnd_gt x.cps _ hq
      rw [if_neg (by show ¬ hitEnd x.cps (nextQ x.cps st) < nextQ x.cps st; omega)]
      refine slice_wp hx ?_
      refine wpAny_pure ?_
      dsimp only
      rw [List.forIn_nil]
      refine wpAny_pure (wpAny_pure ?_)
      have e2 : (mf.handed == mf.start) = false := by
        rw [hit.handed, hit.start]
        exact beq_eq_false_iff_ne.mpr (by show hitEnd x.cps (nextQ x.cps st) ≠ nextQ x.cps st; omega)
      rw [e2, hit.handed, hit.start]
      exact h' _ _ _
    · rw [if_neg hq] at h' ⊢
      exact wpAny_pure h'
  case hR => 
    intro out' st' n' tk' pre' h1 h2
    dsimp only
    rw [if_neg (by simp)]
    refine wpAny_bind (slice_wp hx ?_)
    have hv : SV (out'.push (Value.str (ext x.cps st' x.cps.size) tk')).toList (toks x.cps x.cps.size 0) := by
      rw [Array.toList_push]
      rw [List.nil_append, Nat.sub_zero] at h2
      rw [← h2]
      exact h1.append (SV.one _ _)
    refine wpAny_bind (wpAny_newList ?_ ?_)
    · exact wpAny_pure ⟨_, rfl, h _ _ hv⟩
    · have := toks_length x.cps x.cps.size 0
      rw [← hv.length] at this
      rw [sizeLine_eq]
      show (out'.push (Value.str (ext x.cps st' x.cps.size) tk')).toList.length ≤ _
      omega

theorem call_split {prog : Program} {w : World} {A : PySem.Around} {E : Value → Shared → Prop} {s : Shared} {pa ca : Addr} {t1 t2 tk : Tok} {x : Str} {Q : Value → Shared → Prop}
    (hp : s.heap.get? pa = some (patObj t1 t2 ca)) (hc : s.heap.get? ca = some codeTup) (hx : x.cps.size ≤ 1000)
    (h : ∀ vs tk', SV vs (toks x.cps x.cps.size 0) → Q (.ref s.heap.objs.size) { s with heap := s.heap.push { cls := .type "list", data := .seq vs.toArray }, toks := tk' }) :
    wpAny (model prog w) A (call (.builtin "re.Pattern.split") [.ref pa, .str x tk]) Q E s :=
  wpAny_call_entry slot_re_split ⟨_, hp, rfl⟩ entry_re_split (split_wp hp hc hx h) (args_re_split _ _)
theorem getMethod_split {M' : Model} {A : PySem.Around} {E : Value → Shared → Prop} {s : Shared} {pa ca : Addr} {t1 t2 : Tok} {pl : Sem Bool} {Q : Value × List Value → Shared → Prop}
    (hp : s.heap.get? pa = some (patObj t1 t2 ca)) (h : Q (.builtin "re.Pattern.split", [.ref pa]) s) : wpAny M' A (getMethod (.ref pa) "split" pl) Q E s :=
  getMethod_builtin ⟨_, hp, rfl⟩ plainAttrs_re slot_re_split ty_re_split (fun a e => by cases e; exact ⟨_, hp, rfl⟩) h
end Mine
end
section
open PySem PySem.W PyProof.Rows PySem.Calls
set_option Elab.async false
namespace Mine
section
variable {prog : Program} {w : World} {A : PySem.Around} {E : Value → Shared → Prop} {s : Shared} {env : Env} {h₀ : Heap} {x : Str} {body : List Stmt} {Q : Flow → Shared → Prop}

end
theorem pin {h₀ h : Heap} {L : Addr} {m : Str → Option Value} (F : Fr h₀ L h m) {a : Str} {v : Value} (hv : m a = some v) : Fr h₀ L h (fun y => if y = a then some v else m y) := by
  have e : (fun y => if y = a then some v else m y) = m := by
    funext y
    by_cases h1 : y = a
    · rw [if_pos h1, h1, hv]
    · rw [if_neg h1]
  rw [e]; exact F
end Mine
end
section
open PySem PySem.W PyProof.Rows PySem.Calls
set_option Elab.async false
namespace Mine
open Sem (wp)

/-- the claim's caller is on the stack -/
noncomputable def clCodes (l : List Code) : Bool := l.any fun c => match c with | .builtin "claim.caller" _ => true | _ => false
noncomputable def Cl (Γ : Ctx) : Prop := clCodes (Γ.code :: Γ.below.map (·.1)) = true
noncomputable def ClB (Γ : Ctx) : Prop := clCodes (Γ.below.map (·.1)) = true
theorem ClB.cl {Γ : Ctx} (h : ClB Γ) : Cl Γ := by unfold Cl ClB clCodes at *; rw [List.any_cons, h, Bool.or_true]

noncomputable def wpC {α : Type} (M : Model) (A : PySem.Around) (t : Sem α) (Q : α → Shared → Prop) (E : Value → Shared → Prop) (s : Shared) : Prop :=
  ∀ Γ p, Γ.In A → Cl Γ → wp M Γ t (fun a _ s' => Q a s') (fun e _ s' => E e s') p s
noncomputable def codeC (M : Model) (A : PySem.Around) (c : Code) (R : Result → Shared → Prop) (s : Shared) : Prop :=
  ∀ Γ p, Γ.code = c → Γ.Below A → ClB Γ → wpCode M Γ R p s

section
variable {α β : Type} {M : Model} {A : PySem.Around} {E : Value → Shared → Prop} {s : Shared}
theorem wpC_of_any {t : Sem α} {Q : α → Shared → Prop} (h : wpAny M A t Q E s) : wpC M A t Q E s := fun Γ p hΓ _ => h Γ p hΓ
theorem wpC_mono {t : Sem α} {Q Q' : α → Shared → Prop} {E' : Value → Shared → Prop} (h : wpC M A t Q E s)
    (hQ : ∀ a s, Q a s → Q' a s) (hE : ∀ e s, E e s → E' e s) : wpC M A t Q' E' s :=
  fun Γ p hΓ hc => Sem.wp_mono M Γ t (fun a _ s => hQ a s) (fun e _ s => hE e s) p s (h Γ p hΓ hc)
theorem codeC_mono {c : Code} {R R' : Result → Shared → Prop} (h : codeC M A c R s) (hR : ∀ r s, R r s → R' r s) : codeC M A c R' s :=
  fun Γ p hc hΓ hl => wpCode_mono hR (h Γ p hc hΓ hl)
theorem wpC_pure {a : α} {Q : α → Shared → Prop} (h : Q a s) : wpC M A (pure a) Q E s := fun _ _ _ _ => h
theorem wpC_bind {m : Sem α} {f : α → Sem β} {Q : β → Shared → Prop} (h : wpC M A m (fun a s' => wpC M A (f a) Q E s') E s) :
    wpC M A (m >>= f) Q E s := fun Γ p hΓ hc => by
  rw [Sem.wp_bind']
  exact Sem.wp_mono M Γ m (fun a p' s' h' => h' Γ p' hΓ hc) (fun _ _ _ h' => h') p s (h Γ p hΓ hc)
/-- a leaf by the library, the rest under the caller -/
theorem wpC_step {m : Sem α} {f : α → Sem β} {Q : β → Shared → Prop} (h : wpAny M A m (fun a s' => wpC M A (f a) Q E s') E s) :
    wpC M A (m >>= f) Q E s := wpC_bind (wpC_of_any h)
theorem wpC_onRaise {m : Sem α} {k : Value → Sem Unit} {Q : α → Shared → Prop}
    (h : wpC M A m Q (fun e s' => wpC M A (k e) (fun _ s'' => E e s'') E s') s) : wpC M A (m.onRaise k) Q E s := fun Γ p hΓ hc => by
  rw [Sem.wp_onRaise]
  exact Sem.wp_mono M Γ m (fun _ _ _ h' => h') (fun e p' s' h' => h' Γ p' hΓ hc) p s (h Γ p hΓ hc)
theorem wpC_attempt {m : Sem α} {Q : Except Value α → Shared → Prop} (h : wpC M A m (fun a => Q (.ok a)) (fun e => Q (.error e)) s) :
    wpC M A m.attempt Q E s := fun Γ p hΓ hc => by rw [Sem.wp_attempt]; exact h Γ p hΓ hc
theorem wpC_holding {vs : List Value} {m : Sem α} {Q : α → Shared → Prop} (h : wpC M A m Q E s) : wpC M A (holding vs m) Q E s :=
  fun Γ p hΓ hc => by rw [Sem.wp_holding]; exact h Γ p hΓ hc
theorem wpC_keep {vs : List Value} {m : Sem α} {Q : α → Shared → Prop} (h : wpC M A m Q E s) : wpC M A (m.keep vs) Q E s :=
  fun Γ p hΓ hc => by rw [Sem.wp_keep]; exact h Γ p hΓ hc
theorem wpC_standAt {pos : Pos} {f : Unit → Sem β} {Q : β → Shared → Prop} (h : wpC M A (f ()) Q E s) : wpC M A (standAt pos >>= f) Q E s :=
  wpC_step (wpAny_standAt h)
theorem wpC_run {c : Code} {h : Option Value} {Q : Flow → Shared → Prop}
    (hc : codeC M (A.mark h) c (fun r s' => match r with | .ok f => Q f s' | .error e => E e s') s) (hnb : h ≠ some byPass := by intro x; cases x) :
    wpC M A (run c h) Q E s :=
  fun Γ p hΓ hl => by rw [Sem.wp_run]; exact hc _ p rfl (hΓ.enter c h p hnb) hl
theorem wpC_runValue {c : Code} {Q : Value → Shared → Prop}
    (hc : codeC M A c (fun r s' => match r with | .ok (.ret v) => Q v s' | .ok _ => False | .error e => E e s') s) :
    wpC M A (runValue c) Q E s := fun Γ p hΓ hl => by rw [Sem.wp_runValue]; exact hc _ p rfl (hΓ.enter c none p (by intro x; cases x)) hl
theorem wpC_call {f : Value} {pos : List Value} {kw : List (Str × Value)} {Q : Value → Shared → Prop}
    (hc : codeC M A (.call f ⟨pos, kw⟩) (fun r s' => match r with | .ok (.ret v) => Q v s' | .ok _ => False | .error e => E e s') s) :
    wpC M A (call f pos kw) Q E s := wpC_runValue hc
theorem codeC_of_tree {c : Code} {R : Result → Shared → Prop}
    (h : wpC M (A.under c) (M.den c) (fun fin s' => match fin with | .done f => R (.ok f) s' | .again c' => c'.quiet = true ∧ codeC M A c' R s')
      (fun e s' => R (.error e) s') s) : codeC M A c R s := fun Γ p hc hΓ hl => by
  rw [wpCode_iff_wp, hc]
  refine Sem.wp_mono M Γ _ (fun fin p' s' h' => ?_) (fun _ _ _ h' => h') p s (h Γ p (hc ▸ hΓ.in) hl.cl)
  cases fin with
  | done f => exact h'
  | again c' => exact ⟨h'.1, h'.2 (Γ.goto c') p' rfl (hΓ.goto c') hl⟩
theorem codeC_loop {c : Code} {R : Result → Shared → Prop} (hq : c.quiet = true) (I : Nat → Shared → Prop)
    (turn : ∀ n s, I n s → wpC M (A.under c) (M.den c)
      (fun fin s' => match fin with
        | .done f => R (.ok f) s'
        | .again c' => (c' = c ∧ ∃ m, m < n ∧ I m s') ∨ (c'.quiet = true ∧ codeC M A c' R s')) (fun e s' => R (.error e) s') s)
    (n : Nat) (h : I n s) : codeC M A c R s := by
  induction n using Nat.strongRecOn generalizing s with
  | ind n ih =>
    refine codeC_of_tree (wpC_mono (turn n s h) (fun fin s' hf => ?_) fun _ _ h' => h')
    cases fin with
    | done f => exact hf
    | again c' =>
      rcases hf with ⟨rfl, m, hm, hI⟩ | hf
      · exact ⟨hq, ih m hm hI⟩
      · exact hf
end

/-- nothing is raised -/
noncomputable abbrev NoE : Value → Shared → Prop := fun _ _ => False

section
variable {M : Model} {A : PySem.Around} {E : Value → Shared → Prop} {s : Shared} {env : Env}
theorem wpC_execs_cons {st rest} {Q : Flow → Shared → Prop}
    (h : wpC M A (exec st env) (fun f s' => match f with | .next => wpC M A (execs rest env) Q E s' | f => Q f s') E s) :
    wpC M A (execs (st :: rest) env) Q E s := fun Γ p hΓ hc => by
  rw [execs_cons, Sem.wp_bind']
  refine Sem.wp_mono M Γ _ (fun f p' s' h' => ?_) (fun _ _ _ h' => h') _ _ (h Γ p hΓ hc)
  cases f <;> first | exact h' Γ p' hΓ hc | exact h'
theorem wpC_execs_nil {Q : Flow → Shared → Prop} (h : Q .next s) : wpC M A (execs [] env) Q E s := fun _ _ _ _ => h
/-- a statement by the library, the rest under the caller -/
theorem wpC_execs_any {st rest} {Q : Flow → Shared → Prop}
    (h : wpAny M A (exec st env) (fun f s' => match f with | .next => wpC M A (execs rest env) Q E s' | f => Q f s') E s) :
    wpC M A (execs (st :: rest) env) Q E s := wpC_execs_cons (wpC_of_any h)
theorem wpC_If {test body orelse pos} {Q : Flow → Shared → Prop}
    (h : wpC M A (isTrue test env (eval test env))
      (fun b s₂ => if b then wpC M A (execs body env) Q E s₂ else wpC M A (execs orelse env) Q E s₂) E s) :
    wpC M A (exec (.If test body orelse pos) env) Q E s := fun Γ p hΓ hc => by
  simp only [exec_If, Sem.wp_bind', Sem.wp_cmd_standAt]
  refine Sem.wp_mono M Γ _ (fun b p₂ s₂ h₂ => ?_) (fun _ _ _ h' => h') _ _ (h Γ _ hΓ hc)
  cases b <;> exact h₂ Γ p₂ hΓ hc
theorem wpC_Assign_Name {x pos' value pos} {Q : Flow → Shared → Prop}
    (h : wpC M A (eval value env) (fun v s₁ => wpAny M A (storeName env x v) (fun _ => Q .next) E s₁) E s)
    (hs : swapsWith value (some (.Name x pos')) pos.line env = pure false := by rfl) :
    wpC M A (exec (.Assign [.Name x pos'] value pos) env) Q E s := fun Γ p hΓ hc => by
  simp only [exec_Assign_Name env x pos' value pos hs, Sem.wp_bind', Sem.wp_cmd_standAt, Sem.wp_bindName, Sem.wp_pure']
  exact Sem.wp_mono M Γ _ (fun v _ s₁ h₁ => h₁ Γ _ hΓ) (fun _ _ _ h' => h') _ _ (h Γ _ hΓ hc)
theorem wpC_isTrue_Compare1 {l op r pos whole} {Q : Bool → Shared → Prop}
    (h : wpC M A (eval l env) (fun a s₁ => wpC M A (eval r env) (fun b s₂ => wpAny M A (compareOp op a b)
      (fun c s₃ => wpAny M A (truthy c) Q E s₃) E s₂) E s₁) E s)
    (hm : behindInMarks op r = false := by with_unfolding_all rfl) : wpC M A (isTrue (.Compare l [op] [r] pos) env whole) Q E s := fun Γ p hΓ hc => by
  simp only [isTrue_Compare1, markedBehindIn_of_false hm, Sem.wp_bind', Sem.wp_holding, Sem.wp_cmd_standAt, Sem.wp_operate]
  exact Sem.wp_mono M Γ _ (fun a p₁ s₁ h₁ => Sem.wp_mono M Γ _ (fun b _ s₂ h₂ => Sem.wp_mono M Γ _ (fun c p₃ s₃ h₃ => h₃ Γ p₃ hΓ)
    (fun _ _ _ h' => h') _ _ (h₂ Γ _ hΓ)) (fun _ _ _ h' => h') _ _ (h₁ Γ p₁ hΓ hc)) (fun _ _ _ h' => h') _ _ (h Γ p hΓ hc)
theorem wpC_runOwn {c : Code} {Q : Flow → Shared → Prop}
    (hc : codeC M A c (fun r s' => match r with | .ok f => Q f s' | .error _ => False) s) :
    wpC M A (runOwn c env) Q E s := by
  unfold runOwn
  refine wpC_onRaise (wpC_run (h := none) (codeC_mono (R := fun r s' => match r with | .ok f => Q f s' | .error _ => False) hc fun r s' h' => ?_))
  cases r with
  | ok f => exact h'
  | error e => exact h'.elim
theorem wpC_While {test body orelse pos} {Q : Flow → Shared → Prop}
    (h : codeC M A (.whileLoop test body orelse env) (fun r s' => match r with | .ok f => Q f s' | .error _ => False) s) :
    wpC M A (exec (.While test body orelse pos) env) Q E s := by
  rw [exec_While]; exact wpC_standAt (wpC_runOwn h)
theorem wpC_For {target iter body orelse pos} {Q : Flow → Shared → Prop}
    (h : wpAny M A (eval iter env) (fun x s₁ => wpAny M A (pyIter x) (fun it s₂ =>
      codeC M A (.forLoop target it body orelse env) (fun r s' => match r with | .ok f => Q f s' | .error _ => False) s₂) E s₁) E s)
    (hs : ∀ x, foldedSetIterable iter env x = pure x := by intro _; rfl) :
    wpC M A (exec (.For target iter body orelse pos) env) Q E s := by
  rw [exec_For]
  exact wpC_standAt (wpC_step (wpAny_mono h (fun x s₁ h₁ => wpC_step (wpAny_of_eq (hs x) (wpC_standAt (wpC_step (wpAny_holding
    (wpAny_mono h₁ (fun it s₂ h₂ => wpC_runOwn h₂) fun _ _ h' => h')))))) fun _ _ h' => h'))
theorem wpC_Try_except {body orelse : List Stmt} {h₀ : ExceptHandler} {hs : List ExceptHandler} {pos : Pos} {Q : Flow → Shared → Prop}
    (h : wpC M A (execs body env) (fun f s₁ => match f with | .next => wpAny M A (execs orelse env) Q E s₁ | f => Q f s₁)
      (fun e s₁ => wpAny M A (noteFrame e env) (fun _ s₂ => wpAny M A (setFlight e none) (fun _ s₃ => wpAny M A (handleBy e env (h₀ :: hs)) Q E s₃) E s₂) E s₁) s) :
    wpC M A (exec (.Try body (h₀ :: hs) orelse [] pos) env) Q E s := by
  rw [arm_exec_Try]
  refine wpC_standAt ?_
  unfold tryStmt
  simp only [List.isEmpty_nil, if_true, List.isEmpty_cons, Bool.false_and, Bool.false_eq_true, if_false]
  refine wpC_bind (wpC_attempt (wpC_mono h (fun f s₁ h₁ => ?_) fun e s₁ h₁ => ?_))
  · cases f <;> first | exact wpC_of_any h₁ | exact wpC_pure h₁
  · exact wpC_step (wpAny_mono h₁ (fun _ _ h₂ => wpC_step (wpAny_mono h₂ (fun _ _ h₃ => wpC_of_any h₃) fun _ _ x => x)) fun _ _ x => x)
end

section
variable {prog : Program} {w : World} {A : PySem.Around} {E : Value → Shared → Prop} {R : Result → Shared → Prop} {s : Shared}
theorem wpC_noted {α : Type} {M : Model} {env : Env} {m : Sem α} {Q : α → Shared → Prop} (h : wpC M A m Q NoE s) : wpC M A (m.onRaise fun x => do noteFrame x env; theTreesLotGoes x) Q E s :=
  wpC_onRaise (wpC_mono h (fun _ _ q => q) fun _ _ hx => hx.elim)
theorem codeC_whileLoop {test body env} (I : Nat → Shared → Prop)
    (turn : ∀ n s, I n s →
      wpC (model prog w) A (isTrue test env (eval test env)) (fun b s₂ =>
        if b then wpC (model prog w) A (execs body env) (fun f s₃ => match f with
            | .next | .cont => ∃ m, m < n ∧ I m s₃
            | .brk => R (.ok .next) s₃
            | .ret v => R (.ok (.ret v)) s₃) NoE s₂
        else R (.ok .next) s₂) NoE s)
    (n : Nat) (h : I n s) : codeC (model prog w) A (.whileLoop test body [] env) R s := by
  refine codeC_loop rfl I (fun n s hI => ?_) n h
  show wpC _ A ((whileTurn test body [] env).onRaise (fun x => do noteFrame x env; theTreesLotGoes x)) _ _ s
  refine wpC_noted ?_
  simp only [whileTurn]
  refine wpC_bind (wpC_mono (turn n s hI) (fun b s₂ h₂ => ?_) fun _ _ h' => h')
  cases b with
  | false =>
    simp only [Bool.false_eq_true, if_false] at h₂ ⊢
    exact wpC_step (wpAny_execs_nil (wpC_pure h₂))
  | true =>
    simp only [if_true] at h₂ ⊢
    refine wpC_bind (wpC_mono h₂ (fun f s₃ h₃ => ?_) fun _ _ h' => h')
    cases f with
    | next => exact wpC_pure (.inl ⟨rfl, h₃⟩)
    | cont => exact wpC_pure (.inl ⟨rfl, h₃⟩)
    | brk => exact wpC_pure h₃
    | ret v => exact wpC_pure h₃
theorem codeC_block {stmts : List Stmt} {env : Env} (h : wpC (model prog w) A (execs stmts env) (fun f s' => R (.ok f) s') NoE s) : codeC (model prog w) A (.block stmts env) R s := by
  refine codeC_of_tree ?_
  show wpC _ _ (do return Fin.done (← (execs stmts env).onRaise (fun x => do noteFrame x env; theTreesLotGoes x))) _ _ s
  exact wpC_bind (wpC_noted (wpC_mono h (fun f s' h' => wpC_pure h') fun _ _ h' => h'))
theorem codeC_forLoop {target it body env} (I : Nat → Shared → Prop)
    (turn : ∀ n s, I n s → wpAny (model prog w) A (pyNext it) (fun r s₁ => match r with
      | none => R (.ok .next) s₁
      | some v => wpAny (model prog w) A (assign target env v) (fun _ s₂ => wpC (model prog w) A (execs body env) (fun f s₃ => match f with
          | .next | .cont => ∃ m, m < n ∧ I m s₃
          | .brk => R (.ok .next) s₃
          | .ret v => R (.ok (.ret v)) s₃) NoE s₂) NoE s₁) NoE s)
    (n : Nat) (h : I n s) (ht : ∀ v, letOwnedTupleGo target it v = pure () := by intro _; rfl) : codeC (model prog w) A (.forLoop target it body [] env) R s := by
  refine codeC_loop rfl I (fun n s hI => ?_) n h
  show wpC _ _ ((forTurn target it body [] env).onRaise (fun x => do noteFrame x env; theTreesLotGoes x)) _ _ s
  refine wpC_noted ?_
  simp only [forTurn]
  refine wpC_standAt (wpC_bind (wpC_onRaise (wpC_mono (wpC_of_any (turn n s hI)) (fun r s₁ h₁ => ?_) fun _ _ h' => h'.elim)))
  cases r with
  | none => exact wpC_pure (.inr ⟨rfl, codeC_block (wpC_execs_nil h₁)⟩)
  | some v =>
    refine wpC_step (wpAny_of_eq (ht v) ?_)
    refine wpC_step (wpAny_mono h₁ (fun _ s₂ h₂ => wpC_bind (wpC_mono h₂ (fun f s₃ h₃ => ?_) fun _ _ h' => h')) fun _ _ h' => h')
    cases f with
    | next => exact wpC_pure (.inl ⟨rfl, h₃⟩)
    | cont => exact wpC_pure (.inl ⟨rfl, h₃⟩)
    | brk => exact wpC_pure h₃
    | ret v => exact wpC_pure h₃
theorem codeC_func {body env} (h : wpC (model prog w) (A.deeper env) (execs body env) (fun f s' => R (.ok (.ret (match f with | .ret v => v | _ => .none))) s') NoE s) :
    codeC (model prog w) A (.func body env) R s := by
  refine codeC_of_tree ?_
  show wpC _ (A.deeper env) (do point; match ← (execs body env).onRaise (leaving env) with | .ret v => ret v | _ => ret .none) _ _ s
  refine wpC_step (wpAny_point (wpC_bind (wpC_onRaise (wpC_mono h (fun f s' h' => ?_) fun _ _ h' => h'.elim))))
  cases f <;> exact wpC_pure h'
theorem codeC_call_function {a : Addr} {args : Args} {o : Obj} {fd : FuncData} {body : List Stmt} (hroom : A.depth < recursionLimit)
    (ho : s.heap.get? a = some o)
    (hd' : o.data = .func fd) (hco : fd.scope.isCoroutine = false) (hgen : fd.scope.isGenerator = false) (hbody : fd.body = .stmts body) (hcd : s.heap.CodeRec fd.code fd.qualname)
    (h : wpAny (model prog w) A.in1 (bindArgs fd args) (fun binds s₁ =>
      wpAny (model prog w) A.in1 (newFunctionEnv fd.scope fd.globals fd.closure binds (fd.qualname ++ ".<locals>.") (some a) fd.code none fd.builtins)
        (fun env s₂ => s₂.heap.NoLimit ∧ codeC (model prog w) A (.func body env) R s₂) (fun e s' => R (.error e) s') s₁) (fun e s' => R (.error e) s') s) :
    codeC (model prog w) A (.call (.ref a) args) R s := by
  refine codeC_of_tree ?_
  show wpC _ A.in1 (callAny (.ref a) args) _ _ s
  simp only [callAny]
  refine wpC_step (wpAny_load ho ?_)
  obtain ⟨c, oc, vs, tq, hc, hoc, hdc, hq⟩ := hcd
  simp only [hd', callFunction, hco, hgen, hbody, hc]
  rw [hc] at h
  refine wpC_step (m := field (.ref c) 1) (wpAny_field hoc hdc hq (wpC_step (wpAny_pure ?_)))
  exact wpC_step (wpAny_mono h (fun binds s₁ h₁ => wpC_step (wpAny_mono h₁ (fun env s₂ h₂ => wpC_step (wpAny_enterFrame h₂.1 hroom
    (wpC_pure (And.intro rfl h₂.2)))) fun _ _ h' => h')) fun _ _ h' => h')
theorem codeC_call_def {a : Addr} {o : Obj} {fd : FuncData} {body : List Stmt} {args : Args} {binds : List (Str × Value)}
    (hroom : A.depth < recursionLimit) (ho : s.heap.get? a = some o) (hdata : o.data = .func fd) (hlim : s.heap.NoLimit) (hcd : s.heap.CodeRec fd.code fd.qualname)
    (hbody : fd.body = .stmts body) (hbind : BindsTo s fd args binds)
    (hcell : ∀ x ∈ fd.scope.names, x.2 ≠ .cell) (hloc : ∀ x ∈ binds, fd.scope.names.lookup x.1 = some .local)
    (h : ∀ h₀, h₀.Ns s.heap.objs.size (fun x => binds.reverse.lookup x) → (∀ b o, s.heap.get? b = some o → h₀.get? b = some o) →
      wpC (model prog w) (A.deeper (callEnv fd s.heap.objs.size a)) (execs body (callEnv fd s.heap.objs.size a)) (fun f s' => R (.ok (.ret (match f with | .ret v => v | _ => .none))) s') NoE
        { s with heap := h₀, toks := s.toks + binds.length })
    (hco : fd.scope.isCoroutine = false := by rfl) (hgen : fd.scope.isGenerator = false := by rfl) (hk : fd.scope.kind = .function := by rfl) :
    codeC (model prog w) A (.call (.ref a) args) R s := by
  refine codeC_call_function hroom ho hdata hco hgen hbody hcd (hbind _ _ _ _ ?_)
  refine wpAny_newFunctionEnv hcell hloc (fun h₀ hns₀ hsb₀ => ⟨hlim.fresh _ hsb₀, codeC_func (h h₀ hns₀ fun b o e => ?_)⟩) hk
  exact hsb₀.extBut b o (Nat.ne_of_lt (Heap.lt_size e)) (Heap.get?_push_of_some _ e)
end
end Mine
end
section
open PySem PySem.W PyProof.Rows PySem.Calls
set_option Elab.async false
set_option maxRecDepth 100000
namespace Mine
open Sem (wp)

section
variable {prog : Program} {w : World} {A : PySem.Around} {E : Value → Shared → Prop} {s : Shared} {R : Result → Shared → Prop}
theorem codeC_builtin {id : String} {args : Args} {b : Builtin} (hb : entryFor table id = some b)
    (h : wpC (model prog w) (A.under (.builtin id args)) (b args)
      (fun fin s' => match fin with | .done f => R (.ok f) s' | .again c' => c'.quiet = true ∧ codeC (model prog w) A c' R s') (fun e s' => R (.error e) s') s) :
    codeC (model prog w) A (.builtin id args) R s := by
  refine codeC_of_tree ?_
  show wpC _ _ (match entryFor table id with | some b => b args | none => unsupported ((withoutEnding? id "#data").getD id)) _ _ s
  rw [hb]; exact h
theorem codeC_call_builtin {id : String} {args : Args} {b : Builtin} (hq : plainId id = true) (hb : entryFor table id = some b)
    (h : wpAny (model prog w) A.in1 (checkBuiltinCall id args) (fun _ s₁ => wpC (model prog w) A.in1 (b args)
      (fun fin s' => match fin with | .done f => R (.ok f) s' | .again c' => c'.quiet = true ∧ codeC (model prog w) A c' R s') (fun e s' => R (.error e) s') s₁)
      (fun e s' => R (.error e) s') s) : codeC (model prog w) A (.call (.builtin id) args) R s := by
  refine codeC_of_tree ?_
  show wpC _ A.in1 (do checkBuiltinCall id args; again (.builtin id args)) _ _ s
  refine wpC_step (wpAny_mono h (fun _ s₁ h₁ => wpC_pure (And.intro (plainId_quiet hq args) (codeC_builtin hb ?_))) fun _ _ h' => h')
  rw [Around.under_plainId hq args]; exact h₁

theorem wpC_stack {f : List (Code × Pos) → Sem α} {Q : α → Shared → Prop} (h : ∀ st : List (Code × Pos), clCodes (st.map (·.1)) = true → wpC (model prog w) A (f st) Q E s) :
    wpC (model prog w) A (stack >>= f) Q E s := fun Γ p hΓ hc => by
  show wp (model prog w) Γ (f ((Γ.code, p) :: Γ.below)) _ _ p s
  exact h ((Γ.code, p) :: Γ.below) hc Γ p hΓ hc

theorem mark_none {own : List String} {e : Value} {Q : Unit → Shared → Prop} (h : Q () s) : wpC (model prog w) A (markTheRefusal own e) Q E s := by
  unfold markTheRefusal
  refine wpC_stack fun st hst => ?_
  have e1 : pythonCodeMadeTheCall own (st.map (·.1)) = false := by
    show (!(clCodes (st.map (·.1))) && _ && _) = false
    rw [hst]; rfl
  rw [e1, if_neg (by simp)]
  exact wpC_pure h

theorem typeCall_int_2 (a b : Value) : checkTypeCall "int" ⟨[a, b], []⟩ = pure () := by kernel_rfl
theorem newCall_int_2 (a b : Value) : checkBuiltinCall "int.__new__" ⟨[.type "int", a, b], []⟩ = pure () := by kernel_rfl

theorem int_tree {x : Str} {t u : Tok} {Q : Value → Shared → Prop}
    (h : wpC (model prog w) A.in1.in1 (Builtin.«int.__new__» ⟨[.type "int", .str x t, .int 10 u], []⟩) (fun _ _ => False) E s) :
    wpC (model prog w) A (call (.type "int") [.str x t, .int 10 u]) Q E s := by
  obtain ⟨c, tl, hmro⟩ := F.called_int.mro
  have hmade := F.called_int.made
  have h1 := F.called_int.notType
  have h2 := F.called_int.canCreate
  refine wpC_call (codeC_of_tree ?_)
  show wpC _ _ (callAny (.type "int") _) _ _ _
  refine wpC_pure ⟨Code.quiet_builtin _ (by decide +kernel), codeC_builtin F.entry_type_call ?_⟩
  rw [Around.under_plain (weight_type_call_type "int" _ []) (units_type_call_type "int" _ [])]
  unfold Builtin.«type.__call__»
  dsimp only
  rw [h1, if_neg (by simp)]
  rw [h2, if_neg (by simp)]
  refine wpC_step (wpAny_of_eq (typeCall_int_2 _ _) ?_)
  refine wpC_step (wpAny_of_eq hmro ?_)
  rw [if_neg (by simp)]
  refine wpC_step (wpAny_of_eq hmade ?_)
  dsimp only
  refine wpC_step (wpAny_pure ?_)
  refine wpC_bind (wpC_holding (wpC_call (codeC_call_builtin F.called_int.plain F.entry_int_new (wpAny_of_eq (newCall_int_2 _ _) ?_))))
  exact wpC_mono h (fun _ _ q => q.elim) fun _ _ q => q

theorem int_from_text {x : Str} {t : Tok} {text : List Nat} {Q : Value → Shared → Prop} (hs : (text.takeWhile (· != 0)).length ≤ 640) (hr : (int_private% "readNumeral") 0 10 (text.takeWhile (· != 0)) = int_private% "Numeral.invalid") (hl : (reprText x).length ≤ sizeLine) (hh : A.handled = none)
    (h : ∀ h' tk e, Heap.NewExc s.heap h' e "ValueError" → E (.ref e) { s with heap := h', toks := tk }) :
    wpC (model prog w) A ((int_private% "intFromText") (.str x t) text 10) Q E s := by
  show wpC (model prog w) A (if (text.takeWhile (· != 0)).length ≤ 640 then (bind (pure 0) _) else _) Q E s
  rw [if_pos hs]
  refine wpC_step (wpAny_pure ?_)
  dsimp only
  rw [hr]
  dsimp only
  refine wpC_step (wpAny_of_eq (show (int_private% "bytesOf?") (.str x t) = pure none from rfl) ?_)
  rw [if_neg (by simp)]
  refine wpC_step (wpAny_rule ?_)
  refine wpC_step (wpAny_of_eq (show (int_private% "bytesOf?") (.str x t) = pure none from rfl) ?_)
  dsimp only
  refine wpC_step ?_
  unfold pyRepr
  refine wpAny_bind (pyReprObj_str ?_ hl)
  refine wpAny_pure ?_
  refine wpC_step (wpAny_mkStr ?_ ?_)
  rotate_left
  · show (Str.ofString _ ++ (⟨(reprText x).cps.extract 0 200⟩ : Str)).length ≤ sizeLine
    rw [Str.length_append, sizeLine_eq]
    have e1 : (⟨(reprText x).cps.extract 0 200⟩ : Str).length ≤ 200 := by
      show ((reprText x).cps.extract 0 200).size ≤ 200
      rw [Array.size_extract]; omega
    have e2 : (Str.ofString (toString "invalid literal for int() with base " ++ toString 10 ++ toString ": ")).length ≤ 100 := by decide +kernel
    omega
  refine wpC_step ?_
  unfold newExc newTuple
  refine wpAny_bind (wpAny_newObj_type ?_)
  refine wpAny_bind (m := firstArgMember _ _) (wpAny_of_eq (a := Value.none) (by simp only [firstArgMember, plainExc_ValueError.first]; rfl) ?_)
  rw [plainExc_ValueError.own]
  refine wpAny_newObj_type ?_
  refine wpC_bind (mark_none ?_)
  refine wpC_of_any ?_
  unfold raiseNew
  refine wpAny_bind (wpAny_handled ?_)
  rw [hh]
  first
    | refine wpAny_throw ?_
    | refine wpAny_bind (wpAny_pure (wpAny_throw ?_))
  exact h _ _ _ ⟨fun b o hb => Heap.get?_push_of_some _ (Heap.get?_push_of_some _ hb), Heap.get?_none_of_le (by simp), _, .ref s.heap.objs.size, Heap.get?_push_size _ rfl, rfl, by simp⟩

theorem int_new_tree {x : Str} {t u : Tok} {Q : PySem.Fin → Shared → Prop} (h : ∀ Q', wpC (model prog w) A ((int_private% "intFromText") (.str x t) (numTextOf x) 10) Q' E s) :
    wpC (model prog w) A (Builtin.«int.__new__» ⟨[.type "int", .str x t, .int 10 u], []⟩) Q E s := by
  have f1 := F.conv_sub_int
  have f2 := F.madeHere_int
  unfold Builtin.«int.__new__»
  dsimp only
  refine wpC_step (wpAny_of_eq (show isType (.type "int") = pure true from rfl) ?_)
  rw [if_neg (by simp)]
  refine wpC_step (wpAny_of_eq f1 ?_)
  rw [if_neg (by simp)]
  refine wpC_step (wpAny_of_eq f2 ?_)
  rw [if_neg (by simp), if_neg (by simp), List.forIn_nil]
  refine wpC_step (wpAny_pure ?_)
  dsimp only [List.head?_cons, List.getElem?_cons_succ, List.getElem?_cons_zero]
  show wpC _ _ (bind (Builtin.Int.intIndex "int.__new__" (.int 10 u)) _) _ _ _
  refine wpC_step (wpAny_of_eq (show Builtin.Int.intIndex "int.__new__" (.int 10 u) = pure 10 from rfl) ?_)
  rw [if_neg (by decide)]
  refine wpC_step (wpAny_of_eq (show (int_private% "numeralText?") (.str x t) = pure (some (numTextOf x)) from rfl) ?_)
  dsimp only
  exact wpC_bind (h _)

/-- a word is no number: ValueError, and no note is made under the claim's caller -/
theorem int_word {x : Str} {t u : Tok} {Q : Value → Shared → Prop} (hs : (numSeenOf x).length ≤ 640) (hr : (int_private% "readNumeral") 0 10 (numSeenOf x) = int_private% "Numeral.invalid") (hl : (reprText x).length ≤ sizeLine) (hh : A.handled = none)
    (h : ∀ h' tk e, Heap.NewExc s.heap h' e "ValueError" → E (.ref e) { s with heap := h', toks := tk }) :
    wpC (model prog w) A (call (.type "int") [.str x t, .int 10 u]) Q E s :=
  int_tree (int_new_tree fun _ => int_from_text hs hr hl hh h)
end
end Mine
end
section
open PySem PySem.W PyProof.Rows PySem.Calls PySem.NumText
set_option Elab.async false
set_option maxRecDepth 100000
namespace Mine

theorem args_object_init_3 (a b c : Value) : argsOk "object.__init__" ⟨[a, b, c], []⟩ := by
  unfold argsOk; kernel_rfl

set_option maxHeartbeats 4000000 in
theorem gives_text2 {x : PySem.Str} {t u : Tok} {n : Int} (hl : x.length ≤ 640) (hn : PySem.intText? x = some n) : Gives (Builtin.«int.__new__» ⟨[.type "int", .str x t, .int 10 u], []⟩) (.int n) :=
  .of_wp fun M A E s Q h => by
    have hs : (numSeenOf x).length ≤ 640 := Nat.le_trans (seen_length x) hl
    have hr : (int_private% "readNumeral") 0 10 (numSeenOf x) = (int_private% "Numeral.value") n ∧ ((numSeenOf x).length == (numTextOf x).length) = true := by
      rcases read0 x hs with ⟨m, h1, h2, h3⟩ | ⟨h1, _⟩
      · rw [hn] at h1
        injection h1 with h1
        subst h1
        exact ⟨h3, h2⟩
      · rw [hn] at h1
        cases h1
    have f1 := F.conv_sub_int
    have f2 := F.madeHere_int
    unfold Builtin.«int.__new__»
    dsimp only
    refine wpAny_bind (wpAny_of_eq (show isType (.type "int") = pure true from rfl) ?_)
    rw [if_neg (by simp)]
    refine wpAny_bind (wpAny_of_eq f1 ?_)
    rw [if_neg (by simp)]
    refine wpAny_bind (wpAny_of_eq f2 ?_)
    rw [if_neg (by simp), if_neg (by simp), List.forIn_nil]
    refine wpAny_bind (wpAny_pure ?_)
    dsimp only [List.head?_cons, List.getElem?_cons_succ, List.getElem?_cons_zero]
    show wpAny _ _ (bind (Builtin.Int.intIndex "int.__new__" (.int 10 u)) _) _ _ _
    refine wpAny_bind (wpAny_of_eq (show Builtin.Int.intIndex "int.__new__" (.int 10 u) = pure 10 from rfl) ?_)
    rw [if_neg (by decide)]
    refine wpAny_bind (wpAny_of_eq (show (int_private% "numeralText?") (.str x t) = pure (some (numTextOf x)) from rfl) ?_)
    dsimp only
    refine wpAny_bind (W.KIN.wp_text hs hr.1 hr.2 ?_)
    rw [if_pos (by simp)]
    exact wpAny_pure ⟨_, rfl, h⟩

section
variable {prog : Program} {w : World} {A : PySem.Around} {E : Value → Shared → Prop} {s : Shared} {Q : Value → Shared → Prop} {x : PySem.Str} {t u : Tok} {n : Int}
theorem int_num (hn : PySem.intText? x = some n) (hl : x.length ≤ 640) (h : Q (.int n s.toks) { s with toks := s.toks + 1 }) : wpAny (model prog w) A (call (.type "int") [.str x t, .int 10 u]) Q E s :=
  callType_new F.called_int F.newNe_int (typeCall_int_2 _ _) (newCall_int_2 _ _) (fun obj => args_object_init_3 obj _ _) F.entry_int_new (gives_text2 hl hn).meets (show (Made.int n).post _ s from ⟨rfl, h⟩)
end
end Mine
end
section
open PySem PySem.W PyProof.Rows PySem.Calls
set_option Elab.async false
set_option maxRecDepth 100000
namespace Mine
open Sem (wp)

theorem wp_of_wpC_done {M : Model} {t : Sem PySem.Fin} {R : Result → Shared → Prop} {s : Shared}
    (h : wpC M callerA t (fun fin s' => ∃ f, fin = .done f ∧ R (.ok f) s') (fun e s' => R (.error e) s') s) (p : Pos) :
    wp M ⟨.builtin "claim.caller" {}, none, none, [], none⟩ t (Sem.finPost M ⟨.builtin "claim.caller" {}, none, none, [], none⟩ R) (fun e _ s' => R (.error e) s') p s := by
  refine Sem.wp_mono M _ t (fun fin p' s' h' => ?_) (fun _ _ _ h' => h') p s (h _ p caller_in rfl)
  obtain ⟨f, rfl, hf⟩ := h'
  exact hf

theorem thread_ends_C {prog : Program} {w : World} {t : Sem PySem.Fin} {s : Shared} {R : Result → Shared → Prop} (hreg : s.asleep)
    (h : wpC (model prog w) callerA t (fun fin s' => ∃ f, fin = .done f ∧ (R (.ok f) s' ∧ leftWithCleanup s'.gens = false)) (fun e s' => R (.error e) s' ∧ leftWithCleanup s'.gens = false) s) :
    ∃ n r s' s'', runN (denote table) prog w n s ⟨t, .builtin "claim.caller" {}, default, []⟩ = .halted (outcomeOf r) s' ∧
      schedN (denote table) prog w n (.single s ⟨t, .builtin "claim.caller" {}, default, []⟩) = .halted (outcomeOf r) s' ∧ s'.forget = s''.forget ∧ R r s'' := by
  obtain ⟨n, r, s₁, s₂, hs, hn, hfo, hR⟩ := wp_halts_full (M := model prog w) (R := R) hreg (wp_of_wpC_done (R := fun r s' => R r s' ∧ leftWithCleanup s'.gens = false) h default)
  exact ⟨n, r, s₂, s₁, hn, hs, hfo, hR⟩

theorem callFrom_C {c : ClaimW} {tree : List Value → Sem PySem.Fin} {w : World} {s : Shared} {free : Addr → Prop} {gens : Prop} {kept : Heap → Prop} (hz : s.asleep) (hgens : s.gens = #[])
    (hspec : ∀ args, c.pre args = true → WData.layableAll args = true →
      ∀ ord : List DictEntry → List DictEntry, (∀ l, (ord l).Perm l) →
      ∃ vs s₁, layAllW c.records (classAt s.heap) w.params ord args s = some (vs, s₁) ∧
        wpC (model c.prog w) callerA (tree vs) (fun fin s' => ∃ f, fin = .done f ∧ (c.Ends s args vs s₁ (.ok f) s' ∧ s'.os = s.os ∧ AllBare s'.gens ∧ kept s'.heap))
          (fun e s' => c.Ends s args vs s₁ (.error e) s' ∧ s'.os = s.os ∧ AllBare s'.gens ∧ kept s'.heap) s₁) :
    c.CallFrom (fun vs => ⟨tree vs, .builtin "claim.caller" {}, default, []⟩) w free gens kept s := by
  intro args hpre hlay ord hord
  obtain ⟨vs, s₁, hlaid, hcode⟩ := hspec args hpre hlay ord hord
  have hal := layAllW_rest _ _ _ hlaid
  obtain ⟨k, r, s', s'', hrun, hsched, hfo, hcase, hos, hkp⟩ := thread_ends_C (prog := c.prog) (w := w) (t := tree vs) (s := s₁)
    (R := fun r s' => c.Ends s args vs s₁ r s' ∧ s'.os = s.os ∧ kept s'.heap)
    (Shared.asleep_of_life hal.2.2.2 hz)
    (wpC_mono hcode (by
      rintro fin s' ⟨f, e, h1, h2, h3, h4⟩
      exact ⟨f, e, ⟨h1, h2, h4⟩, leftWithCleanup_false_of_bare h3⟩) (by
      rintro e s' ⟨h1, h2, h3, h4⟩
      exact ⟨⟨h1, h2, h4⟩, leftWithCleanup_false_of_bare h3⟩))
  obtain ⟨eh, _, _, eo, _⟩ := Shared.forget_eq hfo
  have hcase := hcase.congr eh
  have hkp : kept s'.heap := by first | exact eh ▸ hkp | (rw [eh] at hkp; exact hkp) | (rw [← eh] at hkp; exact hkp)
  rw [← eo] at hos
  have hlife : s'.heap.life = s.heap.life := (runN_life _ _ _ hrun).trans hal.2.2.2
  refine ⟨vs, s₁, hlaid, k, _, s', hsched, ?_, (fun _ i x hx => by rw [hgens] at hx; simp at hx), hkp, by rw [hlife], Shared.rest_eq hos⟩
  rcases hcase with ⟨v, rfl, d1, d2, d3, d4, d5⟩ | ⟨e, ob, cls, rfl, d1, d2, d3, d4, d5⟩
  · exact .inl ⟨v, rfl, d1, d2, d3, fun b o y _ => d4 b o y, d5⟩
  · exact .inr ⟨e, ob, cls, rfl, d1, d2, d3, d4, fun b o y _ => d5 b o y⟩

theorem open_C {r : RowW} {run : Value → List Value → Sem Value} {tree : List Value → Sem PySem.Fin} {q : Program} {loose defs kps : List Str} {writes : Bool} {Xt : Shared → Bool} {XP : (Str → Option Value) → Heap → Prop} {α : Type} {Yf : Shared → α} {Ya : World → α} {YP : World → Heap → Prop} {N : Nat}
    (left : LeftO r.prog q loose Xt Yf Ya N) (hY : ∀ w s, Yf s = Ya w → YP w s.heap) (hYk : ∀ w h h', YP w h → (∀ b o, h.get? b = some o → h'.get? b = some o) → YP w h') (hX : ∀ s, Xt s = true → XP (s.heap.nsMap mainGlobals) s.heap) (hXk : ∀ mg h h', XP mg h → (∀ b o, h.get? b = some o → h'.get? b = some o) → XP mg h')
    (hRf : ∀ s, Xt s = true → RecFacts r.records s.heap) (hwr : (!writes || r.records.isEmpty) = true) (ok : (chainsOk q && opensWell r.prog && (frees r && r.within.isEmpty)) = true) (hb : r.prog.bare) (hw : r.promised)
    (ht : ∀ vs (w : World) (s : Shared) mg f (Q : PySem.Fin → Shared → Prop) (E : Value → Shared → Prop), s.heap.Ns mainGlobals mg → mg r.name = some f → wpC (model r.prog w) callerA (run f vs) (fun v s' => Q (.done (.ret v)) s') E s → wpC (model r.prog w) callerA (tree vs) Q E s)
    (pin : ∀ w s, s.heap.isNs mainGlobals = true → Ground q loose [] XP w s (s.heap.nsMap mainGlobals) (s.heap.nsMap builtinsNs) s.heap → ∀ n ∈ defs, isTheDefsW r.prog s.heap n)
    (call : ∀ (w : World) (s₀ s₁ : Shared) (mg mb : Str → Option Value), Ground q loose r.records XP w s₀ mg mb s₁.heap → YP w s₁.heap → ∀ (args : List WData) (vs : List Value) (as : List Addr),
      r.claim.pre args = true → WData.layableAll args = true → Laid r.records w s₀ s₁ args vs as → sysModules < s₀.heap.objs.size → ∃ f, mg r.name = some f ∧
        wpC (model r.prog w) callerA (run f vs) (fun v s' => GoodWG r.claim (classAt s₀.heap) (ExcName.means s₀.heap) args s₁ (.ok (.ret v)) s')
          (fun e s' => GoodWG r.claim (classAt s₀.heap) (ExcName.means s₀.heap) args s₁ (.error e) s') s₁) : r.claim.HoldsOpenBy (fun vs => ⟨tree vs, .builtin "claim.caller" {}, default, []⟩) defs kps writes := by
  obtain ⟨ok, k5⟩ := Bool.and_eq_true_iff.mp ok
  obtain ⟨hch, o1⟩ := Bool.and_eq_true_iff.mp ok
  obtain ⟨k5, k6⟩ := Bool.and_eq_true_iff.mp k5
  obtain ⟨hsame, hu, ha, hap, hm⟩ := frees_parts k5
  refine ⟨⟨hb, o1, by show r.makers.map _ = []; rw [hm]; rfl⟩, hw.witness, fun w => ⟨(left.behind hX hch w).1, fun s' hs' => ?_⟩⟩
  obtain ⟨s₀, hf, hg0, s, hT, hz, hgens, hg, G00, y⟩ := (left.behind (XP := fun mg h => XP mg h ∧ RecFacts r.records h) (fun s hs => ⟨hX s hs, hRf s hs⟩) hch w).2 s' hs'
  have G0 : Ground q loose [] XP w s (s.heap.nsMap mainGlobals) (s.heap.nsMap builtinsNs) s.heap := ⟨G00.T, G00.B, G00.D, G00.TE, G00.TD, G00.W, G00.X.1, G00.cls, G00.has, G00.apart, G00.once, G00.K⟩
  have RF := G00.X.2
  have hT' := hT
  refine ⟨s₀, hf, hg0, s, hT, pin w s hg G0, RF.1, RF.2.1, ?_⟩
  have hgens : s.gens = #[] := Array.eq_empty_of_size_eq_zero (beq_iff_eq.mp hgens)
  have G : Ground q loose r.records XP w s _ _ s.heap := RF.ground G0
  refine callFrom_C (c := r.claim) hz hgens fun args hpre hlay ord hord => ?_
  obtain ⟨⟨vs, s₁⟩, hlaid⟩ := Option.isSome_iff_exists.mp (layAllW_isSome (P := w.params) (ord := ord) G.has args r.args s (pre_splitW hpre).1)
  have keeps := layAllW_keeps _ _ _ hlaid
  have hal := layAllW_rest _ _ _ hlaid
  obtain ⟨as, hrd, hin, hold⟩ := reads_layAllW hord _ _ _ hlaid hlay s₁.heap (fun _ _ e => e)
  have L : Laid r.records w s s₁ args vs as := ⟨⟨ord, hord, hlaid⟩, hrd, hin, hold, keeps, hal.1.trans hgens, hal.2.2.1⟩
  have G₁ := G.keeps hXk keeps
  obtain ⟨f, hf, h⟩ := call w s s₁ _ _ G₁ (hYk _ _ _ (hY w s y) keeps) args vs as hpre hlay L G.low
  have hi := ident_freeW hu ha hap
  have hwi : r.claim.within = [] := List.isEmpty_iff.mp k6
  exact ⟨vs, s₁, hlaid, ht vs w s₁ _ f _ _ G₁.T.g hf (wpC_mono h (fun v s' g => ⟨_, rfl, have z := g.laid (c := r.claim) hsame hwi hi L; ⟨z.1, z.2.1, z.2.2, fun q => ⟨namesKept_of hT' hg kps keeps g.2.1.old, noTable hwr q⟩⟩⟩) fun e s' g => have z := g.laid (c := r.claim) hsame hwi hi L; ⟨z.1, z.2.1, z.2.2, fun q => ⟨namesKept_of hT' hg kps keeps g.2.1.old, noTable hwr q⟩⟩)⟩

noncomputable abbrev WalkC (q : Program) (loose : List Str) (XP : (Str → Option Value) → Heap → Prop) (YP : World → Heap → Prop) (r : RowW) (d : DefRec) (kwd : List (Str × PySem.Expr)) (run : Value → List Value → Sem Value) : Prop :=
  ∀ (w : World) (s₀ s₁ : Shared) (mg mb : Str → Option Value), Ground q loose r.records XP w s₀ mg mb s₁.heap → YP w s₁.heap → ∀ (a : Addr) (o : Obj) (pm cd doc dV kV : Value), s₁.heap.get? a = some o →
    o.data = .func { docDef d.name d.params d.body d.scope pm cd doc with defaults := dV, kwdefaults := kV } → s₁.heap.CodeRec cd d.name → Dflts mg s₁.heap d.params kwd dV kV → mg d.name = some (.ref a) → s₁.gens = #[] →
    ∀ (args : List WData) (vals : List Value) (as : List Addr), r.claim.pre args = true → WData.layableAll args = true → ReadsAllW r.records (classAt s₀.heap) s₁.heap vals args as → WellAll w.params s₁.heap vals args → (∀ a ∈ as, (a == sysModules) = false) →
      wpC (model r.prog w) callerA (run (.ref a) vals) (fun v s' => GoodWG r.claim (classAt s₀.heap) (ExcName.means s₀.heap) args s₁ (.ok (.ret v)) s')
        (fun e s' => GoodWG r.claim (classAt s₀.heap) (ExcName.means s₀.heap) args s₁ (.error e) s') s₁

theorem PySem.W.holds_open {r : OpenRow} {q : Program} {loose : List Str} {Xt : Shared → Bool} {XP : (Str → Option Value) → Heap → Prop} {α : Type} {Yf : Shared → α} {Ya : World → α} {YP : World → Heap → Prop} {d : DefRec} {kwd : List (Str × PySem.Expr)} {N : Nat}
    (left : LeftO r.prog q loose Xt Yf Ya N) (hY : ∀ w s, Yf s = Ya w → YP w s.heap) (hYk : ∀ w h h', YP w h → (∀ b o, h.get? b = some o → h'.get? b = some o) → YP w h')
    (hX : ∀ s, Xt s = true → XP (s.heap.nsMap mainGlobals) s.heap) (hXk : ∀ mg h h', XP mg h → (∀ b o, h.get? b = some o → h'.get? b = some o) → XP mg h')
    (hdef : defOf q r.name = some (d, kwd)) (hp : r.prog.theDef r.name = some (d.params, d.body, d.scope)) (hk : kwWritten? d.params.kwonlyargs d.params.kw_defaults = some kwd) (hRf : ∀ s, Xt s = true → RecFacts r.records s.heap) (hwr : (!r.writes || r.records.isEmpty) = true)
    (k1 : r.wellSaid = true) (ok : (chainsOk q && opensWell r.prog && (frees r.toRowW && r.within.isEmpty)) = true) (hb : r.prog.bare) (hw : r.toRowW.promised)
    (call : WalkC q loose XP YP r.toRowW d kwd fun f vs => _root_.PySem.call f vs) : r.Holds := by
  refine ⟨k1, hw, open_C (r := r.toRowW) (run := fun f vs => _root_.PySem.call f vs) (tree := fun vs => do match ← nsGet mainNs r.name with
      | some f => do ret (← _root_.PySem.call f vs)
      | none => unsupported "claim.caller:no-such-global") left hY hYk hX hXk hRf hwr ok hb hw
    (fun vs w s mg f Q E hg hf h => wpC_step (wpAny_nsGet hg (by rw [hf]; exact wpC_bind (wpC_mono h (fun _ _ x => wpC_pure x) fun _ _ x => x))))
    (fun w s hg G n hn => ?_) fun w s₀ s₁ mg mb G Y args vs as hpre hlay L low => ?_⟩
  · obtain rfl : n = r.name := by split at hn <;> simp_all
    exact pinned_of_view hg G hdef hp hk
  · obtain ⟨a, o, pm, cd, doc, dV, kV, h1, h2, h3, h4, h5⟩ := G.fn hdef
    exact ⟨.ref a, h1, call w s₀ s₁ mg mb G Y a o pm cd doc dV kV h2 h3 h4 h5 (defOf_name hdef ▸ h1) L.gens args vs as hpre hlay L.reads L.well (L.low low)⟩
end Mine
end
section
open PySem PySem.W PyProof.Rows
set_option Elab.async false
namespace Mine
set_option maxRecDepth 100000 in
set_option maxHeartbeats 8000000 in
open_top hd for PySem.Challenge.rw_ph0088_02
end Mine
end
section
open PySem PySem.W PyProof.Rows PySem.Calls
set_option Elab.async false
set_option maxRecDepth 100000
namespace Mine

noncomputable abbrev frA (frs : List (Addr × Obj)) : List Addr := frs.map (·.1)

/-- where a call starts: the ground h₀ stands, the frames on the stack are these -/
structure Bs (h₀ : Heap) (outer : List Env) (frs : List (Addr × Obj)) (h : Heap) : Prop where
  stay : ∀ b o, h₀.get? b = some o → h.get? b = some o
  isf : TI.Frs outer frs
  there : ∀ p ∈ frs, h.get? p.1 = some p.2
  new : ∀ p ∈ frs, h₀.get? p.1 = none

/-- what a call leaves: all but the frames as it was, the frames up to their slots -/
structure Kx (frs frs' : List (Addr × Obj)) (h h' : Heap) : Prop where
  up : TI.SameUp frs frs'
  there : ∀ p ∈ frs', h'.get? p.1 = some p.2
  keep : ∀ b o, b ∉ frA frs → h.get? b = some o → h'.get? b = some o

theorem sameUp_addr : ∀ {a b : List (Addr × Obj)}, TI.SameUp a b → frA b = frA a
  | [], [], _ => rfl
  | [], _ :: _, h => h.elim
  | _ :: _, [], h => h.elim
  | p :: ps, q :: qs, ⟨h1, _, h3⟩ => by
    show q.1 :: frA qs = p.1 :: frA ps
    rw [h1, sameUp_addr h3]

/-- the base of a called body: all that stands, without the frames -/
noncomputable abbrev bas (h : Heap) (frs : List (Addr × Obj)) : Heap := TI.gone h (frA frs)
theorem bas_size (h : Heap) : ∀ l : List Addr, (TI.gone h l).objs.size = h.objs.size
  | [] => rfl
  | a :: l => by rw [TI.gone, Heap.size_update]; exact bas_size h l

theorem Kx.of {frs frs' : List (Addr × Obj)} {h h' : Heap} {L : Addr} {m : Str → Option Value} (F : Fr (bas h frs) L h' m) (up : TI.SameUp frs frs') (there : ∀ p ∈ frs', h'.get? p.1 = some p.2) : Kx frs frs' h h' :=
  ⟨up, there, fun b o hb e => F.keep b o ((TI.gone_get hb).trans e)⟩

theorem Bs.base {h₀ : Heap} {outer : List Env} {frs : List (Addr × Obj)} {h : Heap} (B : Bs h₀ outer frs h) : ∀ b o, h₀.get? b = some o → (bas h frs).get? b = some o := fun b o e =>
  (TI.gone_get fun hm => by obtain ⟨p, hp, rfl⟩ := List.mem_map.mp hm; rw [B.new p hp] at e; cases e).trans (B.stay b o e)

section
variable {K : Frag} {prog : Program} {w : World} {A : PySem.Around} {s : Shared} {R : Result → Shared → Prop} {h₀ : Heap} {outer : List Env} {frs : List (Addr × Obj)}
noncomputable abbrev retOf (fl : Flow) : Value := match fl with | .ret v => v | _ => .none
theorem call_C {name qual : Str} {params : Arguments} {body : List Stmt} {scope : Scope} {dV kV doc pm cdv ct oc : Value} {an od : Option Addr} {osl : Array (Option Value)} {f : Addr} {args : Args} {binds : List (Str × Value)}
    (B : Bs h₀ outer frs s.heap) (X : K.In h₀) (hlim : h₀.NoLimit)
    (ho : K.lookup f = some ⟨oc, od, .func (fnOf name qual params body scope dV kV doc pm an cdv ct), osl⟩) (hcd : codeIn K cdv qual = true) (hroom : A.depth < recursionLimit)
    (hbind : BindsTo s (fnOf name qual params body scope dV kV doc pm an cdv ct) args binds) (hloc : (binds.all fun y => decide (scope.names.lookup y.1 = some .local)) = true)
    (h : ∀ L h₁, Fr (bas s.heap frs) L h₁ (fun y => binds.reverse.lookup y) → News (bas s.heap frs) L h₁ frs →
      wpC (model prog w) (A.deeper (envOf qual scope L f cdv)) (execs body (envOf qual scope L f cdv))
        (fun fl s' => R (.ok (.ret (retOf fl))) s') NoE { s with heap := h₁, toks := s.toks + binds.length })
    (hco : scope.isCoroutine = false := by rfl) (hgen : scope.isGenerator = false := by rfl) (hk : scope.kind = .function := by rfl)
    (hcell : ∀ x ∈ scope.names, x.2 ≠ .cell := by decide) : codeC (model prog w) A (.call (.ref f) args) R s := by
  have Xs := X.keeps B.stay
  refine codeC_call_def (fd := fnOf name qual params body scope dV kV doc pm an cdv ct) (body := body) (binds := binds) hroom (Xs _ _ ho) rfl (hlim.keeps B.stay) (codeRec_of Xs hcd) rfl hbind hcell (locs hloc) (fun h₁ hns hk₁ => ?_) hco hgen hk
  refine h _ h₁ ⟨hns, fun b o e => hk₁ b o (TI.gone_some e).2, Nat.le_of_eq (bas_size _ _)⟩ fun p hp => ?_
  have hp' := B.there p hp
  exact ⟨hk₁ _ _ hp', Nat.ne_of_lt (Heap.lt_size hp'), TI.gone_none (List.mem_map.mpr ⟨p, hp, rfl⟩)⟩
end

section
variable {h₀ hb h : Heap} {outer : List Env} {frs news : List (Addr × Obj)} {L a : Addr} {m : Str → Option Value} {name : Str} {scope : Scope} {cd : Value}
/-- at a call from a body: its own frame is one more on the stack -/
theorem bs_of (hb0 : ∀ b o, h₀.get? b = some o → hb.get? b = some o) (F : Fr hb L h m) (N : News hb L h (news ++ frs)) (Fs : TI.Frs outer frs) (hk : scope.kind = .function := by rfl) :
    ∃ oL, Bs h₀ (envOf name scope L a cd :: outer) ((L, oL) :: frs) h ∧ (∀ (h' : Heap) sl, h'.get? L = some { oL with slots := sl } → h'.Ns L m) := by
  obtain ⟨oL, es, ep, hL, hLd, hLk, hLf⟩ := F.ns
  have none0 : ∀ b, hb.get? b = none → h₀.get? b = none := fun b e => by
    cases q : h₀.get? b with
    | none => rfl
    | some o => rw [hb0 b o q] at e; cases e
  refine ⟨oL, ⟨fun b o e => F.keep b o (hb0 b o e), ⟨by show scope.kind ≠ .module; rw [hk]; decide, rfl, ⟨es, ep, hLd⟩, Fs⟩, fun p hp => ?_, fun p hp => ?_⟩, fun h' sl e => ⟨_, es, ep, e, hLd, hLk, hLf⟩⟩
  · rcases List.mem_cons.mp hp with rfl | hp
    · exact hL
    · exact (N p (List.mem_append_right _ hp)).1
  · rcases List.mem_cons.mp hp with rfl | hp
    · exact none0 _ (Heap.get?_none_of_le F.above)
    · exact none0 _ (N p (List.mem_append_right _ hp)).2.2

/-- behind the call: frame and ledger again -/
theorem back_of {oL : Obj} {frs₂ : List (Addr × Obj)} {h' : Heap} (F : Fr hb L h m) (N : News hb L h (news ++ frs)) (Fs : TI.Frs outer frs) (hap : ∀ p ∈ news, p.1 ∉ frA frs)
    (ns : ∀ (h' : Heap) sl, h'.get? L = some { oL with slots := sl } → h'.Ns L m) (k : Kx ((L, oL) :: frs) frs₂ h h') :
    ∃ frs', TI.SameUp frs frs' ∧ TI.Frs outer frs' ∧ frA frs' = frA frs ∧ Fr hb L h' m ∧ News hb L h' (news ++ frs') ∧ (∀ b o, b ≠ L → b ∉ frA frs → h.get? b = some o → h'.get? b = some o) := by
  obtain ⟨up, there, keep⟩ := k
  cases frs₂ with
  | nil => exact up.elim
  | cons q frs' =>
    obtain ⟨e1, ⟨sl, e2⟩, up⟩ := up
    have hL : h'.get? L = some { oL with slots := sl } := by
      have := there q (.head _)
      rw [show q.1 = L from e1, e2] at this; exact this
    have ea := sameUp_addr up
    have keep' : ∀ b o, b ≠ L → b ∉ frA frs → h.get? b = some o → h'.get? b = some o := fun b o b1 b2 e => keep b o (fun hm => (List.mem_cons.mp hm).elim b1 b2) e
    refine ⟨frs', up, Fs.up up, ea, ⟨ns h' sl hL, fun b o e => keep' b o (Nat.ne_of_lt (Nat.lt_of_lt_of_le (Heap.lt_size e) F.above)) (fun hm => ?_) (F.keep b o e), F.above⟩, fun p hp => ?_, keep'⟩
    · obtain ⟨p, hp, rfl⟩ := List.mem_map.mp hm
      rw [(N p (List.mem_append_right _ hp)).2.2] at e; cases e
    · rcases List.mem_append.mp hp with hp | hp
      · have n := N p (List.mem_append_left _ hp)
        exact ⟨keep' _ _ n.2.1 (hap p hp) n.1, n.2⟩
      · have : p.1 ∈ frA frs := by rw [← ea]; exact List.mem_map.mpr ⟨p, hp, rfl⟩
        obtain ⟨x, hx, e⟩ := List.mem_map.mp this
        have n := N x (List.mem_append_right _ hx)
        exact ⟨there p (.tail _ hp), by rw [← e]; exact n.2.1, by rw [← e]; exact n.2.2⟩
end

section
variable {prog : Program} {w : World} {A : PySem.Around} {E : Value → Shared → Prop} {s : Shared} {env : Env} {h₀ : Heap} {x : Str} {px : Pos} {body : List Stmt} {R : Result → Shared → Prop}

/-- the turn's end -/
noncomputable def TEnd (h₀ : Heap) (L : Addr) (J : (Str → Option Value) → List (Addr × Obj) → Prop) (I l : Addr) (s₁ s₂ : Shared) : Prop :=
  ∃ h' tk m' news', s₂ = { s₁ with heap := h', toks := tk } ∧ Fr h₀ L h' m' ∧ News h₀ L h' news' ∧ (∀ b, (b = I ∨ b = l) → ∀ o, s₁.heap.get? b = some o → h'.get? b = some o) ∧ J m' news'
noncomputable def TPost (h₀ : Heap) (L : Addr) (J : (Str → Option Value) → List (Addr × Obj) → Prop) (I l : Addr) (s₁ : Shared) (R : Result → Shared → Prop) (f : Flow) (s₂ : Shared) : Prop :=
  match f with
  | .ret v => R (.ok (.ret v)) s₂
  | .brk => R (.ok .next) s₂
  | _ => TEnd h₀ L J I l s₁ s₂

/-- a for over a list that stands in the heap, its turns under the caller -/
theorem iterC_list {l : Addr} {vs : List Value} {m₀ : Str → Option Value} {news : List (Addr × Obj)} (J : Nat → (Str → Option Value) → List (Addr × Obj) → Prop)
    (hh : A.handled = none) (hl : s.heap.IsList l vs.toArray) (hlL : l ≠ env.locals) (F : Fr h₀ env.locals s.heap m₀) (N : News h₀ env.locals s.heap news) (hj : J 0 m₀ news)
    (turn : ∀ i v m₁ news₁ h tk I, vs[i]? = some v → s.heap.get? I = none → J i m₁ news₁ → Fr h₀ env.locals h (fun y => if y = x then some v else m₁ y) → News h₀ env.locals h news₁ → h.IsListIter I l (i + 1) → h.IsList l vs.toArray →
      wpC (model prog w) A (execs body env) (TPost h₀ env.locals (J (i + 1)) I l { s with heap := h, toks := tk } R) NoE { s with heap := h, toks := tk })
    (hna : ∀ i m' news', J i m' news' → ∀ p ∈ news', p.1 ≠ s.heap.objs.size)
    (done : ∀ m₁ news₁ h tk, J vs.length m₁ news₁ → Fr h₀ env.locals h m₁ → News h₀ env.locals h news₁ → R (.ok .next) { s with heap := h, toks := tk })
    (hx : env.kindOf x = some .local := by rfl)
    (hp : (env.scope.kind == .class || (env.scope.kind == .module && env.locals != env.globals)) = false := by rfl) :
    wpAny (model prog w) A (pyIter (.ref l)) (fun it s₂ => codeC (model prog w) A (.forLoop (.Name x px) it body [] env) R s₂) E s := by
  obtain ⟨ol, hol, _⟩ := id hl
  have hlt : l < s.heap.objs.size := Heap.lt_size hol
  have hLI : env.locals ≠ s.heap.objs.size := Nat.ne_of_lt F.ns.lt
  have hI0 : h₀.get? s.heap.objs.size = none := Heap.get?_none_of_le (Nat.le_trans F.above (Nat.le_of_lt F.ns.lt))
  refine wpAny_pyIter_list hl ?_
  have W := Walks.list (prog := prog) (w := w) hh s.heap.objs.size l (Nat.ne_of_lt hlt) vs.toArray
  rw [List.size_toArray] at W
  refine codeC_forLoop (fun k s' => ∃ h' tk m' news' i, s' = { s with heap := h', toks := tk } ∧ (h'.IsListIter s.heap.objs.size l i ∧ h'.IsList l vs.toArray) ∧ Fr h₀ env.locals h' m' ∧ News h₀ env.locals h' news' ∧ J i m' news' ∧ i ≤ vs.length ∧ k = vs.length + 1 - i) ?_ (vs.length + 1)
    ⟨_, _, m₀, news, 0, rfl, ⟨⟨_, Heap.get?_push_size _ rfl, rfl, rfl⟩, hl.at fun o e => Heap.get?_push_of_some _ e⟩, F.push _, (fun p hp => ⟨Heap.get?_push_of_some _ (N p hp).1, (N p hp).2⟩), hj, Nat.zero_le _, rfl⟩
  rintro k s' ⟨h', tk, m', news', i, rfl, hst, F', N', hJ, hi, rfl⟩
  have hnw := hna i m' news' hJ
  have next : ∀ h₁ : Heap, (∀ b o, b ∉ [s.heap.objs.size] → h'.get? b = some o → h₁.get? b = some o) → Fr h₀ env.locals h₁ m' ∧ News h₀ env.locals h₁ news' := fun h₁ hk₁ =>
    ⟨⟨F'.ns.at' fun o e => hk₁ _ o (fun q => hLI (List.mem_singleton.mp q)) e, fun b o e => hk₁ b o (fun q => by rw [List.mem_singleton.mp q, hI0] at e; cases e) (F'.keep b o e), F'.above⟩,
     fun p hp => ⟨hk₁ _ _ (fun q => hnw p hp (List.mem_singleton.mp q)) (N' p hp).1, (N' p hp).2⟩⟩
  by_cases hlt' : i < vs.length
  · refine W.item i _ _ _ hlt' hst fun v h₁ tk₁ hP hst₁ hk₁ => ?_
    obtain ⟨F₁, N₁⟩ := next h₁ hk₁
    refine wpAny_assign_Name (wpAny_storeName_local hx F₁.ns (fun h₂ hn₂ hs₂ => ?_) hp)
    have F₂ := F₁.set hn₂ hs₂
    have N₂ := N₁.set hs₂
    have hst₂ := W.frame _ _ h₂ hst₁ fun b hb o e => (hs₂.2 b fun q => by
      rcases List.mem_cons.mp hb with r | r
      · exact hLI (q ▸ r)
      · exact hlL ((List.mem_singleton.mp r).symm.trans q)).trans e
    have hP' : vs[i]? = some v := by simpa using hP
    refine wpC_mono (turn i v m' news' h₂ _ s.heap.objs.size hP' (Heap.get?_none_of_le (Nat.le_refl _)) hJ F₂ N₂ hst₂.1 hst₂.2) (fun f s₃ h₃ => ?_) fun _ _ e => e
    cases f with
    | ret v => exact h₃
    | brk => exact h₃
    | cont =>
      obtain ⟨h₃', tk₃, m₂, news₂, rfl, F₃, N₃, ha₃, hJ₃⟩ := h₃
      exact ⟨vs.length + 1 - (i + 1), by omega, h₃', tk₃, m₂, news₂, i + 1, rfl, ⟨hst₂.1.at fun o e => ha₃ _ (.inl rfl) o e, hst₂.2.at fun o e => ha₃ _ (.inr rfl) o e⟩, F₃, N₃, hJ₃, hlt', rfl⟩
    | next =>
      obtain ⟨h₃', tk₃, m₂, news₂, rfl, F₃, N₃, ha₃, hJ₃⟩ := h₃
      exact ⟨vs.length + 1 - (i + 1), by omega, h₃', tk₃, m₂, news₂, i + 1, rfl, ⟨hst₂.1.at fun o e => ha₃ _ (.inl rfl) o e, hst₂.2.at fun o e => ha₃ _ (.inr rfl) o e⟩, F₃, N₃, hJ₃, hlt', rfl⟩
  · have hin : i = vs.length := by omega
    subst hin
    refine W.done _ _ _ hst fun h₁ tk₁ hk₁ => ?_
    obtain ⟨F₁, N₁⟩ := next h₁ hk₁
    exact done m' news' h₁ tk₁ hJ F₁ N₁
end
end Mine
end
section
open PySem PySem.W PyProof.Rows PySem.Calls
set_option Elab.async false
set_option maxRecDepth 100000
namespace Mine
section
variable {M : Model} {A : PySem.Around} {E : Value → Shared → Prop} {s : Shared} {env : Env}
theorem wpC_Call_Name {id : Str} {p pos : Pos} {args : List PySem.Expr} {keywords : List Keyword} {Q : Value → Shared → Prop}
    (h : wpAny M A (eval (.Name id p) env) (fun f s₁ => wpC M A (callWith pos f [] (backTo pos (starEach args env)) (backToKw pos (keywordEach keywords env))) Q E s₁) E s) :
    wpC M A (eval (.Call (.Name id p) args keywords pos) env) Q E s := by
  rw [arm_eval_Call_Name']
  exact wpC_step h
theorem wpC_spliced_cons {x : Sem Value} {rest : List (Bool × Sem Value)} {Q : List Value → Shared → Prop}
    (h : wpC M A x (fun v s₁ => wpC M A (spliced rest) (fun vs s₂ => Q (v :: vs) s₂) E s₁) E s) : wpC M A (spliced ((false, x) :: rest)) Q E s := by
  rw [spliced]
  refine wpC_bind (wpC_mono h (fun v s₁ h₁ => ?_) fun _ _ x => x)
  simp only [Bool.false_eq_true, if_false]
  exact wpC_step (wpAny_pure (wpC_bind (wpC_holding (wpC_mono h₁ (fun vs s₂ h₂ => wpC_pure h₂) fun _ _ x => x))))
theorem wpC_args_cons {e : PySem.Expr} {rest : List PySem.Expr} {pos : Pos} {Q : List Value → Shared → Prop}
    (h : wpC M A (eval e env) (fun v s₁ => wpC M A (spliced (backTo pos (starEach rest env))) (fun vs s₂ => Q (v :: vs) s₂) E s₁) E s)
    (he : starEach (e :: rest) env = (false, eval e env) :: starEach rest env := by rfl) : wpC M A (spliced (backTo pos (starEach (e :: rest) env))) Q E s := by
  rw [he]; exact wpC_spliced_cons h
theorem wpC_evalArgs_kw {f : Value} {x : Sem Value} {rest : List (Bool × Sem Value)} {keywords : List (Option Str × Sem Value)} {Q : Args → Shared → Prop}
    (hall : keywords.all (·.1.isSome) = true)
    (h : wpC M A (spliced ((false, x) :: rest)) (fun vs s₁ => wpC M A (evalAll (keywords.map (·.2))) (fun ks s₂ => Q ⟨vs, (keywords.filterMap (·.1)).zip ks⟩ s₂) E s₁) E s) :
    wpC M A (evalArgs f true ((false, x) :: rest) keywords) Q E s := by
  unfold evalArgs
  show wpC M A (spliced ((false, x) :: rest) >>= _) Q E s
  refine wpC_bind (wpC_mono h (fun vs s₁ h₁ => ?_) fun _ _ x => x)
  refine wpC_holding ?_
  simp only [hall, if_true]
  refine wpC_bind (wpC_mono h₁ (fun ks s₂ h₂ => ?_) fun _ _ x => x)
  exact wpC_step (wpAny_pure (wpC_pure h₂))
theorem wpC_callWith_def {pos : Pos} {a : Addr} {o : Obj} {fd : FuncData} {args : List (Bool × Sem Value)} {keywords : List (Option Str × Sem Value)} {Q : Value → Shared → Prop}
    (h : wpC M A (evalArgs (.ref a) true args keywords) (fun x s₁ => (s₁.heap.get? a = some o ∧ o.data = .func fd) ∧ wpC M A (call (.ref a) x.pos x.kw) Q E s₁) E s) :
    wpC M A (callWith pos (.ref a) [] args keywords) Q E s := by
  unfold callWith
  refine wpC_bind (wpC_holding (wpC_mono h (fun x s₁ h₁ => wpC_standAt ?_) fun _ _ x => x))
  have tail : ∀ {t : Sem Value}, wpC M A t Q E s₁ → wpC M A (t >>= fun r => holding [r] point >>= fun _ => pure r) Q E s₁ :=
    fun ht => wpC_bind (wpC_mono ht (fun r s₂ hr => wpC_step (wpAny_holding (wpAny_point (wpC_pure hr)))) fun _ _ x => x)
  cases hs : (args.any (·.1) || keywords.any (·.1.isNone)) <;>
    refine wpC_step (m := keeperOf (.ref a)) ?_ <;> unfold keeperOf <;>
    refine wpAny_bind (wpAny_load h₁.1.1 ?_) <;> rw [h₁.1.2] <;> refine wpAny_pure ?_
  · dsimp only
    by_cases hc : args.length + 2 * keywords.length > 30
    · simp only [hc, if_true]
      exact tail h₁.2
    · simp only [hc, if_false]
      exact tail (by unfold callMarked; exact wpC_keep h₁.2)
  · exact tail (by unfold callMarked; exact wpC_keep h₁.2)
/-- a def called with plain arguments and keywords -/
theorem wpC_call_args {pos : Pos} {f : Addr} {o : Obj} {fd : FuncData} {e : PySem.Expr} {rest : List PySem.Expr} {kws : List Keyword} {Q : Value → Shared → Prop} (hdat : o.data = .func fd)
    (h : wpC M A (spliced (backTo pos (starEach (e :: rest) env))) (fun vs s₁ => wpC M A (evalAll ((backToKw pos (keywordEach kws env)).map (·.2)))
      (fun ks s₂ => s₂.heap.get? f = some o ∧ wpC M A (call (.ref f) vs (((backToKw pos (keywordEach kws env)).filterMap (·.1)).zip ks)) Q E s₂) E s₁) E s)
    (hall : (backToKw pos (keywordEach kws env)).all (·.1.isSome) = true := by rfl)
    (he : starEach (e :: rest) env = (false, eval e env) :: starEach rest env := by rfl) :
    wpC M A (callWith pos (.ref f) [] (backTo pos (starEach (e :: rest) env)) (backToKw pos (keywordEach kws env))) Q E s := by
  rw [he] at h ⊢
  refine wpC_callWith_def (o := o) (fd := fd) (wpC_evalArgs_kw hall (wpC_mono h (fun vs s₁ h₁ => wpC_mono h₁ (fun ks s₂ h₂ => ⟨⟨h₂.1, hdat⟩, h₂.2⟩) fun _ _ x => x) fun _ _ x => x))
theorem wpC_callWith_type {pos : Pos} {T : String} {args : List (Bool × Sem Value)} {Q : Value → Shared → Prop} (hplain : args.any (·.1) = false)
    (h : wpC M A (evalArgs (.type T) true args []) (fun a s₁ => wpC M A (call (.type T) a.pos a.kw) Q E s₁) E s) :
    wpC M A (callWith pos (.type T) [] args []) Q E s := by
  unfold callWith
  refine wpC_bind (wpC_holding (wpC_mono h (fun a s₁ h₁ => wpC_standAt ?_) fun _ _ x => x))
  simp only [hplain, List.any_nil, Bool.or_false]
  refine wpC_step (wpAny_pure ?_)
  exact wpC_bind (wpC_mono h₁ (fun r s₂ hr => wpC_step (wpAny_holding (wpAny_point (wpC_pure hr)))) fun _ _ x => x)
theorem wpC_callWith_type1 {pos : Pos} {T : String} {e : PySem.Expr} {rest : List PySem.Expr} {Q : Value → Shared → Prop}
    (h : wpAny M A (spliced (backTo pos (starEach (e :: rest) env))) (fun vs s₁ => wpC M A (call (.type T) vs) Q E s₁) E s)
    (he : starEach (e :: rest) env = (false, eval e env) :: starEach rest env := by rfl)
    (hplain : (backTo pos (starEach rest env)).any (·.1) = false := by rfl) :
    wpC M A (callWith pos (.type T) [] (backTo pos (starEach (e :: rest) env)) []) Q E s := by
  rw [he] at h ⊢
  exact wpC_callWith_type (by show (false || (backTo pos (starEach rest env)).any (·.1)) = false; rw [hplain]; rfl) (wpC_of_any (evalArgs_plain h))
end

section
variable {prog : Program} {w : World} {A₀ : PySem.Around} {E : Value → Shared → Prop} {s' : Shared} {hb h : Heap} {L a e : Addr} {m : Str → Option Value} {name : Str} {scope : Scope} {cd : Value} {l : List Env} {frs new : List (Addr × Obj)}
  {b₀ : Stmt} {suite : List Stmt} {pos np : Pos} {rest : List ExceptHandler} {Q : Flow → Shared → Prop} {X : String} {x : Str} {p : Program} {loose : List Str} {mg mb : Str → Option Value}
/-- an exception that the frame's own except takes, whatever frames are below -/
theorem caught_C (hfr : A₀.frames = some l) (Fs : TI.Frs l frs) (hx : Heap.NewExc h s'.heap e X) (F : Fr hb L h m) (N : News hb L h (new ++ frs)) (hap : ∀ q ∈ new, q.1 ∉ frA frs)
    (T : TopRead p loose mg mb hb)
    (k : ∀ h' frs', TI.SameUp frs frs' → TI.Frs l frs' → Fr hb L h' m → News hb L h' (new ++ frs') → wpAny (model prog w) ((A₀.deeper (envOf name scope L a cd)).mark (some (.ref e))) (execs (b₀ :: suite) (envOf name scope L a cd)) Q E { s' with heap := h' })
    (t1 : x ∉ startupNames := by decide +kernel) (t2 : x ∉ loose := by decide +kernel) (t3 : x ∉ (recsOf p).map (·.name) := by decide +kernel) (t4 : x ∉ (litsOf p).map (·.1) := by decide +kernel) (t5 : x ∉ (clssOf p loose).map (·.name) := by decide +kernel)
    (h3 : subB X (.type x.toString) = some true := by decide +kernel) (hv : bootBuiltins x = some (.type x.toString) := by decide +kernel) (h1 : subB x.toString (.type "BaseException") = some true := by decide +kernel)
    (h2 : subB ((Manifest.find? x.toString).elim "type" fun y => y.metatype) (.type "tuple") = some false := by decide +kernel) (hn : x ≠ "__name__" := by decide)
    (hk : scope.kind = .function := by rfl) (hxk : (envOf name scope L a cd).kindOf x = some .globalImplicit := by rfl) (hdb : (x == ("__debug__" : Str)) = false := by decide)
    (hE : PassesOwnAt (model prog w) ((A₀.deeper (envOf name scope L a cd)).mark (some (.ref e))) (A₀.deeper (envOf name scope L a cd)) (envOf name scope L a cd) E := by passes_own) :
    wpAny (model prog w) (A₀.deeper (envOf name scope L a cd)) (noteFrame (.ref e) (envOf name scope L a cd))
      (fun _ s₂ => wpAny (model prog w) (A₀.deeper (envOf name scope L a cd)) (setFlight (.ref e) none) (fun _ s₃ =>
        wpAny (model prog w) (A₀.deeper (envOf name scope L a cd)) (handleBy (.ref e) (envOf name scope L a cd) (.ExceptHandler (some (.Name x np)) none (b₀ :: suite) pos :: rest)) Q E s₃) E s₂) E s' := by
  refine TLg.noted_newA hfr Fs hx F N (fun q hq hm => ?_) (fun h₁ frs₁ SU Fs₁ H => ?_) hk
  · rcases List.mem_cons.mp hm with r | r
    · exact (N q (List.mem_append_left _ hq)).2.1 r
    · exact hap q hq r
  · refine TT.HeldNA.land (s' := { s' with heap := h₁ }) H fun h₂ H₂ => ?_
    refine wpAny_handleBy_builtin (X := X) (T := x.toString) (b := true) (isSubtype_of_subB h1) (isSubtype_of_subB h2) (isSubtype_of_subB h3) (wpAny_passesOwnAt hE (ld_builtin_at H₂.held.fr T.g (T.free x t1 t2 t3 t4 t5) T.b ((T.builtins x hn).trans hv) ⟨rfl, TT.HeldNA.isA (s' := { s' with heap := h₂ }) H₂, ?_⟩ hk hxk hdb))
    rw [if_pos rfl]
    exact TT.HeldNA.lands (s' := { s' with heap := h₂ }) H₂ fun h' F' N' => wpAny_passesOwnAt hE (k h' frs₁ SU Fs₁ F' N')
end
end Mine
end
section
open PySem PySem.W PyProof.Rows PySem.Calls
set_option Elab.async false
set_option maxRecDepth 100000
namespace Mine
noncomputable abbrev loose02 : List Str := looseW hd.view_39 [Str.ofString "insort_right", Str.ofString "bisect_right", Str.ofString "insort_left", Str.ofString "bisect_left", Str.ofString "_twin_re_1", Str.ofString "_ver_stages"]
structure Gd (w : World) (mg mb : Str → Option Value) (h : Heap) : Prop where
  X : (hd.heap_39 w.params).In h
  T : TopRead hd.view_39 loose02 mg mb h
theorem Gd.keeps {w : World} {mg mb : Str → Option Value} {h h' : Heap} (G : Gd w mg mb h) (hk : ∀ b o, h.get? b = some o → h'.get? b = some o) : Gd w mg mb h' := ⟨G.X.keeps hk, G.T.keeps hk⟩
end Mine
end
section
open PySem PySem.W PyProof.Rows PySem.Calls
set_option Elab.async false
set_option maxRecDepth 100000
namespace Mine
open AutoSeq1 (wpAny_loadPart')
open MeetsSeq MeetsSeq2 MeetsSeq3

/-- a part of what _comparable_version tells -/
inductive Atom where
  | i (n : Int)
  | s (x : Str)
  deriving DecidableEq
inductive AV : List Value → List Atom → Prop
  | nil : AV [] []
  | int {n : Int} {t : Tok} {vs : List Value} {as : List Atom} : AV vs as → AV (.int n t :: vs) (.i n :: as)
  | str {x : Str} {t : Tok} {vs : List Value} {as : List Atom} : AV vs as → AV (.str x t :: vs) (.s x :: as)
theorem AV.append {vs ws : List Value} {as bs : List Atom} (h : AV vs as) (k : AV ws bs) : AV (vs ++ ws) (as ++ bs) := by
  induction h with
  | nil => exact k
  | int _ ih => exact .int ih
  | str _ ih => exact .str ih
theorem AV.length {vs : List Value} {as : List Atom} (h : AV vs as) : vs.length = as.length := by
  induction h with
  | nil => rfl
  | int _ ih => simp [ih]
  | str _ ih => simp [ih]
/-- one value is one atom -/
inductive A1 : Value → Atom → Prop
  | int (n : Int) (t : Tok) : A1 (.int n t) (.i n)
  | str (x : Str) (t : Tok) : A1 (.str x t) (.s x)
theorem AV.at {vs : List Value} {as : List Atom} (h : AV vs as) : ∀ i : Nat, (∃ v a, vs[i]? = some v ∧ as[i]? = some a ∧ A1 v a) ∨ (vs[i]? = none ∧ as[i]? = none) := by
  induction h with
  | nil => intro i; exact .inr ⟨rfl, rfl⟩
  | @int n t vs as _ ih => intro i; cases i with
    | zero => exact .inl ⟨_, _, rfl, rfl, .int n t⟩
    | succ i => simpa using ih i
  | @str x t vs as _ ih => intro i; cases i with
    | zero => exact .inl ⟨_, _, rfl, rfl, .str x t⟩
    | succ i => simpa using ih i

noncomputable def Atom.lt : Atom → Atom → Bool
  | .i m, .i n => decide (m < n)
  | .s x, .s y => decide (x.cps.toList < y.cps.toList)
  | _, _ => false
noncomputable def Atom.alike : Atom → Atom → Bool
  | .i _, .i _ => true
  | .s _, .s _ => true
  | _, _ => false
/-- the order of rows of parts -/
noncomputable def rowLt : List Atom → List Atom → Bool
  | [], [] => false
  | [], _ :: _ => true
  | _ :: _, [] => false
  | a :: as, b :: bs => if a = b then rowLt as bs else a.lt b
/-- they can be compared -/
noncomputable def Comp : List Atom → List Atom → Prop
  | a :: as, b :: bs => a.alike b = true ∧ (a = b → Comp as bs)
  | _, _ => True

theorem eq_atoms {A : PySem.Around} {s : Shared} {v u : Value} {a b : Atom} (h : A1 v a) (k : A1 u b) (hk : a.alike b = true) : SeqAt.EqAt A s v u (decide (a = b)) := by
  cases h with
  | int m t => cases k with
    | int n t' =>
      have := SeqAt.EqAt.int_int (A := A) (s := s) m t n t'
      have e : (m == n) = decide (Atom.i m = Atom.i n) := by
        by_cases q : m = n
        · subst q; simp
        · rw [beq_eq_false_iff_ne.mpr q]; symm; exact decide_eq_false (by intro z; injection z with z; exact q z)
      rw [e] at this; exact this
    | str => cases hk
  | str x t => cases k with
    | int => cases hk
    | str y t' =>
      have := SeqAt.EqAt.str_str (A := A) (s := s) x t y t'
      have e : (x == y) = decide (Atom.s x = Atom.s y) := by
        by_cases q : x = y
        · subst q; simp
        · rw [beq_eq_false_iff_ne.mpr q]; symm; exact decide_eq_false (by intro z; injection z with z; exact q z)
      rw [e] at this; exact this
theorem lt_atoms {prog : Program} {w : World} {A : PySem.Around} {E : Value → Shared → Prop} {s : Shared} {v u : Value} {a b : Atom} (h : A1 v a) (k : A1 u b) (hk : a.alike b = true) {Q : Value → Shared → Prop} (hq : Q (.bool (a.lt b)) s) :
    wpAny (model prog w) A (richCompare .Lt v u) Q E s := by
  cases h with
  | int m t => cases k with
    | int n t' => exact wpAny_lt_int hq
    | str => cases hk
  | str x t => cases k with
    | int => cases hk
    | str y t' => exact PyProof.Rows.lt_str hq

theorem lt_loop (l b : Addr) (vs us : List Value) (n n2 : Nat) : ∀ (k i : Nat) (as bs : List Atom) (as₀ bs₀ : List Atom), AV vs as₀ → AV us bs₀ → as = as₀.drop i → bs = bs₀.drop i → as.length = k → i ≤ as₀.length → i ≤ bs₀.length → Comp as bs →
    Meets (Builtin.«list.__eq__.loop» ⟨[.ref l, .ref b, rawInt i, rawInt 0], []⟩)
      (fun A R s => s.heap.get? l = some (W.listOf vs.toArray n) ∧ s.heap.get? b = some (W.listOf us.toArray n2) ∧ R (.ok (.ret (.bool (rowLt as bs)))) s) := by
  intro k
  induction k with
  | zero =>
    intro i as bs as₀ bs₀ hv hu ea eb hk hia hib hc prog w A R s h
    obtain ⟨hp, g, d, tk, os⟩ := s; obtain ⟨hl, hb, h⟩ := h
    have ea0 : as = [] := List.eq_nil_of_length_eq_zero hk
    subst ea0
    have hi1 : vs.toArray[((i : Nat) : Int).toNat]? = none := by
      have : as₀.length ≤ i := List.drop_eq_nil_iff.mp ea.symm
      rw [← hv.length] at this
      simp; exact this
    have hsz : rowLt [] bs = decide (vs.toArray.size < us.toArray.size) := by
      have h0 : as₀.length ≤ i := List.drop_eq_nil_iff.mp ea.symm
      have h1 := hv.length
      have h2 := hu.length
      have h3 : bs.length = bs₀.length - i := by rw [eb, List.length_drop]
      cases bs with
      | nil =>
        simp only [List.length_nil] at h3
        show false = _
        symm
        apply decide_eq_false
        rw [List.size_toArray, List.size_toArray, h1, h2]
        omega
      | cons b' bs' =>
        show true = _
        symm
        apply decide_eq_true
        rw [List.size_toArray, List.size_toArray, h1, h2]
        simp only [List.length_cons] at h3
        omega
    rw [hsz] at h
    wp_walk using wpAny_loadPart' hl, wpAny_loadPart' hb
    rw [hi1]
    cases hy : us.toArray[((i : Nat) : Int).toNat]? with
    | none =>
      wp_walk using wpAny_loadPart' hl, wpAny_loadPart' hb
      exact h
    | some y =>
      wp_walk using wpAny_loadPart' hl, wpAny_loadPart' hb
      exact h
  | succ k ih =>
    intro i as bs as₀ bs₀ hv hu ea eb hk hia hib hc prog w A R s h
    obtain ⟨hp, g, d, tk, os⟩ := s; obtain ⟨hl, hb, h⟩ := h
    obtain ⟨a, as', rfl⟩ : ∃ a as', as = a :: as' := by
      cases as with
      | nil => cases hk
      | cons a as' => exact ⟨a, as', rfl⟩
    have hai : as₀[i]? = some a := by
      rw [← List.head?_drop, ← ea]; rfl
    have hat : as' = as₀.drop (i + 1) := by
      rw [← List.tail_drop, ← ea]; rfl
    obtain ⟨x, a', hx, ha', hxa⟩ : ∃ v a, vs[i]? = some v ∧ as₀[i]? = some a ∧ A1 v a := by
      rcases hv.at i with h | ⟨_, h⟩
      · exact h
      · rw [hai] at h; cases h
    rw [hai] at ha'; cases ha'
    have hi1 : vs.toArray[((i : Nat) : Int).toNat]? = some x := by simpa using hx
    wp_walk using wpAny_loadPart' hl, wpAny_loadPart' hb
    rw [hi1]
    cases bs with
    | nil =>
      have hi2 : us.toArray[((i : Nat) : Int).toNat]? = none := by
        have : bs₀.length ≤ i := List.drop_eq_nil_iff.mp eb.symm
        rw [← hu.length] at this
        simp; exact this
      have hsz : decide (vs.toArray.size < us.toArray.size) = false := by
        apply decide_eq_false
        rw [List.size_toArray, List.size_toArray]
        have h1 := List.getElem?_eq_some_iff.mp hx
        have h2 : us.length ≤ i := by simpa using hi2
        have := h1.1
        omega
      rw [hi2]
      wp_walk using wpAny_loadPart' hl, wpAny_loadPart' hb
      show R (.ok (.ret (.bool (decide (vs.toArray.size < us.toArray.size))))) _
      rw [hsz]; exact h
    | cons b' bs' =>
      have hbi : bs₀[i]? = some b' := by
        rw [← List.head?_drop, ← eb]; rfl
      have hbt : bs' = bs₀.drop (i + 1) := by
        rw [← List.tail_drop, ← eb]; rfl
      obtain ⟨y, b'', hy, hb', hyb⟩ : ∃ v a, us[i]? = some v ∧ bs₀[i]? = some a ∧ A1 v a := by
        rcases hu.at i with h | ⟨_, h⟩
        · exact h
        · rw [hbi] at h; cases h
      rw [hbi] at hb'; cases hb'
      have hi2 : us.toArray[((i : Nat) : Int).toNat]? = some y := by simpa using hy
      rw [hi2]
      have hcc : ((i : Int) + 1) = ((i + 1 : Nat) : Int) := by push_cast; rfl
      refine wpAny_bind (eq_atoms hxa hyb hc.1 prog w _ _ ?_)
      have er : rowLt (a :: as') (b' :: bs') = if a = b' then rowLt as' bs' else a.lt b' := rfl
      rw [er] at h
      by_cases hab : a = b'
      · rw [if_pos hab] at h
        rw [decide_eq_true hab]
        wp_walk
        rw [hcc]
        exact ⟨plainId_quiet plain_eq_loop _, codeAny_builtin entry_eq_loop (by
          rw [Around.under_plainId plain_eq_loop _]
          exact ih (i + 1) as' bs' as₀ bs₀ hv hu hat hbt (by simpa using hk) (List.getElem?_eq_some_iff.mp hai).1 (List.getElem?_eq_some_iff.mp hbi).1 (hc.2 hab) prog w A R _ ⟨hl, hb, h⟩)⟩
      · rw [if_neg hab] at h
        rw [decide_eq_false hab]
        wp_walk using wpAny_loadPart' hl, wpAny_loadPart' hb
        rw [hi1, hi2]
        dsimp only
        refine wpAny_bind (lt_atoms hxa hyb hc.1 ?_)
        exact wpAny_pure h

theorem list_lt (l b : Addr) {vs us : List Value} {n n2 : Nat} {as bs : List Atom} (hv : AV vs as) (hu : AV us bs) (hc : Comp as bs) :
    Meets (Builtin.«list.__lt__» ⟨[.ref l, .ref b], []⟩)
      (fun A R s => s.heap.get? l = some (W.listOf vs.toArray n) ∧ s.heap.get? b = some (W.listOf us.toArray n2) ∧ R (.ok (.ret (.bool (rowLt as bs)))) s) := by
  intro prog w A R s h
  obtain ⟨hp, g, d, tk, os⟩ := s; obtain ⟨hl, hb, h⟩ := h
  have f3 := AutoSeq1.sub_list_list
  wp_walk using wpAny_loadPart' hl, wpAny_loadPart' hb
  exact ⟨plainId_quiet plain_eq_loop _, codeAny_builtin entry_eq_loop (by
    rw [Around.under_plainId plain_eq_loop _]
    exact lt_loop l b vs us n n2 _ 0 as bs as bs hv hu rfl rfl rfl (Nat.zero_le _) (Nat.zero_le _) hc prog w A R _ ⟨hl, hb, h⟩)⟩

theorem lt_lists {prog : Program} {w : World} {A : PySem.Around} {E : Value → Shared → Prop} {s : Shared} {l b : Addr} {vs us : List Value} {n n2 : Nat} {as bs : List Atom} {Q : Value → Shared → Prop} (hv : AV vs as) (hu : AV us bs) (hc : Comp as bs)
    (hl : s.heap.get? l = some (W.listOf vs.toArray n)) (hb : s.heap.get? b = some (W.listOf us.toArray n2)) (hun : A.units < cLine) (h : Q (.bool (rowLt as bs)) s) : wpAny (model prog w) A (compareOp .Lt (.ref l) (.ref b)) Q E s := by
  show wpAny (model prog w) A (richCompare .Lt (.ref l) (.ref b)) Q E s
  have ha : s.TypeIs (.ref l) "list" := ⟨_, hl, rfl⟩
  have hb' : s.TypeIs (.ref b) "list" := ⟨_, hb, rfl⟩
  have g := list_lt l b (n := n) (n2 := n2) hv hu hc
  refine richCompare_meets_room ha hb' PySem.F.slot_list_lt PySem.F.entry_list_lt (PySem.F.args_list_lt_2 _ _) g ?_ hun
  refine ⟨hl, hb, ?_⟩
  exact ⟨(by intro q; cases q), h⟩
end Mine
end
section
open PySem PySem.W PyProof.Rows PySem.Calls
set_option Elab.async false
set_option maxRecDepth 100000
namespace Mine

noncomputable def Pins (m : Str → Option Value) : List (Str × Value) → Prop
  | [] => True
  | (a, v) :: r => m a = some v ∧ Pins m r
theorem Pins.look {m : Str → Option Value} : ∀ {l : List (Str × Value)}, Pins m l → ∀ {y : Str} {v : Value}, l.lookup y = some v → m y = some v
  | [], _, _, _, e => by cases e
  | (a, u) :: r, h, y, v, e => by
    rw [List.lookup] at e
    by_cases q : y = a
    · subst q
      rw [show (y == y) = true from beq_self_eq_true _] at e
      cases e
      exact h.1
    · rw [show (y == a) = false from beq_eq_false_iff_ne.mpr q] at e
      exact h.2.look e
/-- what is known of the names, into the frame's map -/
theorem pins {h₀ h : Heap} {L : Addr} {m : Str → Option Value} (F : Fr h₀ L h m) (l : List (Str × Value)) (hl : Pins m l) : Fr h₀ L h (fun y => (l.lookup y).or (m y)) := by
  have e : (fun y => (l.lookup y).or (m y)) = m := by
    funext y
    cases q : l.lookup y with
    | none => rfl
    | some v => exact (hl.look q).symm
  rw [e]; exact F

noncomputable def skipTok (v : Str) : Bool := !(Builtin.Str.occurrences (Str.ofString "._+-") v 0 (Str.ofString "._+-").length 1).isEmpty

theorem SV.at {vs : List Value} {xs : List Str} (h : SV vs xs) {i : Nat} {v : Value} (hv : vs[i]? = some v) : ∃ x, xs[i]? = some x ∧ ∃ t, v = .str x t := by
  induction h generalizing i with
  | nil => simp at hv
  | @cons x t vs xs _ ih =>
    cases i with
    | zero => simp at hv; exact ⟨x, rfl, t, hv.symm⟩
    | succ i => simp only [List.getElem?_cons_succ] at hv ⊢; exact ih hv

noncomputable def stages : List (Str × Int) := [(⟨#[100, 101, 118]⟩, 10), (⟨#[97, 108, 112, 104, 97]⟩, 20), (⟨#[97]⟩, 20), (⟨#[98, 101, 116, 97]⟩, 30), (⟨#[98]⟩, 30), (⟨#[99]⟩, 40), (⟨#[82, 67]⟩, 50), (⟨#[114, 99]⟩, 50), (⟨#[112, 108]⟩, 200), (⟨#[112]⟩, 200)]
noncomputable def stageOf (v : Str) : Int := (stages.lookup v).getD 0
theorem look_stage (vx : Str) : ∀ l : List (Str × Int), Spec.lookup (PyData.str vx) (l.map fun p => (PyData.str p.1, PyData.int p.2)) = (l.lookup vx).map PyData.int
  | [] => rfl
  | (a, n) :: l => by
    show (if Spec.same (.str a) (.str vx) = true then some (PyData.int n) else Spec.lookup (PyData.str vx) (l.map fun p => (PyData.str p.1, PyData.int p.2))) = _
    rw [look_stage vx l, List.lookup]
    by_cases h : vx = a
    · subst h
      rw [if_pos (by simp [Spec.same]), show (vx == vx) = true from beq_self_eq_true _]; rfl
    · rw [if_neg (by simp [Spec.same]; exact fun q => h q.symm), show (vx == a) = false from beq_eq_false_iff_ne.mpr h]
theorem stage_flat {vx : Str} {v : Value} (h : PyProof.V.Flat v ((Spec.lookup (PyData.str vx) [(PyData.str ⟨#[100, 101, 118]⟩, PyData.int 10), (PyData.str ⟨#[97, 108, 112, 104, 97]⟩, PyData.int 20), (PyData.str ⟨#[97]⟩, PyData.int 20), (PyData.str ⟨#[98, 101, 116, 97]⟩, PyData.int 30), (PyData.str ⟨#[98]⟩, PyData.int 30), (PyData.str ⟨#[99]⟩, PyData.int 40), (PyData.str ⟨#[82, 67]⟩, PyData.int 50), (PyData.str ⟨#[114, 99]⟩, PyData.int 50), (PyData.str ⟨#[112, 108]⟩, PyData.int 200), (PyData.str ⟨#[112]⟩, PyData.int 200)]).getD (PyData.int 0))) : ∃ t, v = .int (stageOf vx) t := by
  have e : Spec.lookup (PyData.str vx) (stages.map fun p => (PyData.str p.1, PyData.int p.2)) = (stages.lookup vx).map PyData.int := look_stage vx stages
  have h' : PyProof.V.Flat v ((Spec.lookup (PyData.str vx) (stages.map fun p => (PyData.str p.1, PyData.int p.2))).getD (PyData.int 0)) := h
  rw [e] at h'
  have e2 : ((stages.lookup vx).map PyData.int).getD (PyData.int 0) = PyData.int (stageOf vx) := by
    unfold stageOf; cases stages.lookup vx <;> rfl
  rw [e2] at h'
  have r := h' default
  cases r
  exact ⟨_, rfl⟩
noncomputable def atomsOf (v : Str) : List Atom := if skipTok v then [] else match PySem.intText? v with
  | some n => [.i 100, .i n]
  | none => [.i (stageOf v), .s v]
theorem atoms_le : ∀ l : List Str, (l.flatMap atomsOf).length ≤ 2 * l.length
  | [] => Nat.le_refl _
  | v :: l => by
    rw [List.flatMap_cons, List.length_append, List.length_cons]
    have h1 := atoms_le l
    have h2 : (atomsOf v).length ≤ 2 := by
      unfold atomsOf
      split
      · simp
      · split <;> simp
    omega
/-- what may stand in a version -/
noncomputable def TokOk (v : Str) : Prop := skipTok v = true ∨ (∃ n, PySem.intText? v = some n ∧ v.length ≤ 640) ∨
  (PySem.intText? v = none ∧ (numSeenOf v).length ≤ 640 ∧ (int_private% "readNumeral") 0 10 (numSeenOf v) = int_private% "Numeral.invalid" ∧ (reprText v).length ≤ sizeLine)

theorem news_pick {h₀ h : Heap} {L : Addr} {a b c d : Addr × Obj} {rest : List (Addr × Obj)} (N : News h₀ L h (a :: b :: c :: d :: rest)) : News h₀ L h (b :: rest) ∧ News h₀ L h [c, d] := by
  refine ⟨fun p hp => N p ?_, fun p hp => N p ?_⟩
  · rcases List.mem_cons.mp hp with rfl | hp
    · exact .tail _ (.head _)
    · exact .tail _ (.tail _ (.tail _ (.tail _ hp)))
  · rcases List.mem_cons.mp hp with rfl | hp
    · exact .tail _ (.tail _ (.head _))
    · rw [List.mem_singleton.mp hp]; exact .tail _ (.tail _ (.tail _ (.head _)))
theorem extend_pair {prog : Program} {w : World} {A : PySem.Around} {E : Value → Shared → Prop} {s : Shared} {h₀ : Heap} {L r b : Addr} {m : Str → Option Value} {v1 v2 : Value} {vals : List Value} {n : Nat} {rest : List (Addr × Obj)} {Q : Value → Shared → Prop}
    (F : Fr h₀ L s.heap m) (N : News h₀ L s.heap ((b, { cls := .type "tuple", data := .seq #[v1, v2] }) :: (r, W.listOf vals.toArray n) :: rest)) (hbr : b ≠ r) (hrest : ∀ p ∈ rest, p.1 ≠ r) (hz : vals.length ≤ 100000)
    (h : ∀ h', Fr h₀ L h' m → News h₀ L h' ((b, { cls := .type "tuple", data := .seq #[v1, v2] }) :: (r, W.listOf (vals ++ [v1, v2]).toArray (n + 1)) :: rest) → Q .none { s with heap := h' }) :
    wpAny (model prog w) A (call (.builtin "list.extend") [.ref r, .ref b]) Q E s := by
  refine kup_extend F N (.head _) (l := vals ++ [v1, v2]) rfl (by simp) (.tail hbr (.head hrest)) ?_ ?_ ?_ h
  · intro hc
    rw [Bool.and_eq_true] at hc
    exact extend_door (a := vals.toArray) (b := #[v1, v2]) (by rw [sizeLine_eq]; simp; omega) (by rw [Bool.and_eq_true]; exact hc)
  · rw [sizeLine_eq]; simp; omega
  · rw [sizeLine_eq]; simp; omega

noncomputable def keyOf (l : Str) : List Atom := (toks l.cps l.cps.size 0).flatMap atomsOf
structure LabOk (l : Str) : Prop where
  size : l.cps.size ≤ 1000
  ok : ∀ v ∈ toks l.cps l.cps.size 0, TokOk v
end Mine
end
section
open PySem PySem.W PyProof.Rows PySem.Calls
set_option Elab.async false
set_option maxRecDepth 100000
namespace Mine

set_option maxHeartbeats 8000000 in
theorem cv_spec {w : World} {mg mb : Str → Option Value} {A : PySem.Around} {s : Shared} {R : Result → Shared → Prop} {h₀ : Heap} {outer : List Env} {frs : List (Addr × Obj)} {x : Str} {tk : Tok}
    (G : Gd w mg mb h₀) (B : Bs h₀ outer frs s.heap) (hA : A.frames = some outer) (hroom : A.depth + 10 < recursionLimit) (hh : A.handled = none) (hx : x.cps.size ≤ 1000) (hT : ∀ v ∈ toks x.cps x.cps.size 0, TokOk v)
    (k : ∀ h' tk' frs' a vs n, Kx frs frs' s.heap h' → h'.get? a = some (W.listOf (List.toArray vs) n) → s.heap.get? a = none → AV vs ((toks x.cps x.cps.size 0).flatMap atomsOf) → R (.ok (.ret (.ref a))) { s with heap := h', toks := tk' }) :
    codeC (model Challenge.rw_ph0088_02.row.prog w) A (.call (.ref 80) ⟨[.str x tk], []⟩) R s := by
  have X := (G.keeps B.base).X
  have T := (G.keeps B.base).T
  revert X; k_fill; intro X
  refine call_C (K := hd.heap_39 w.params) (binds := [(Str.ofString "version", .str x tk)]) B G.X G.T.nolimit rfl rfl (by omega) (BindsTo.of_eq rfl) rfl (fun L h₁ F N => ?_)
  refine wpC_execs_any ?_
  k_steps
  refine wpC_execs_any ?_
  k_steps
  refine wpC_execs_cons (wpC_For ?_)
  k_steps
  rename Fr _ _ _ _ => F
  rename News _ _ _ _ => N
  rename_i r _ hrf h'
  refine getMethod_split (F.keep 72 _ (X 72 _ rfl)) ?_
  k_steps
  refine call_split (F.keep 72 _ (X 72 _ rfl)) (F.keep 71 _ (X 71 _ rfl)) hx ?_
  intro vs tk2 hsv
  have F2 := F.push { cls := .type "list", data := .seq vs.toArray }
  have N2 := News.push F N { cls := .type "list", data := .seq vs.toArray }
  have hr := Heap.lt_size (N _ (.head _)).1
  have hl0 : (r, W.listOf #[] 0).1 ≠ L := (N _ (.head _)).2.1
  dsimp only at F2 N2 hr hl0 ⊢
  refine iterC_list (fun i m' nx => ∃ vals n frs', nx = (r, W.listOf (List.toArray vals) n) :: frs' ∧ TI.SameUp frs frs' ∧ TI.Frs outer frs' ∧ m' (Str.ofString "result") = some (.ref r) ∧ AV vals (((toks x.cps x.cps.size 0).take i).flatMap atomsOf)) hh ⟨_, Heap.get?_push_size _ rfl, rfl, _, rfl⟩ ?_ F2 (fun p hp => N2 p (.tail _ hp)) ⟨[], 0, frs, rfl, TI.SameUp.refl _, B.isf, rfl, .nil⟩ ?_ ?_ ?_
  · exact Nat.ne_of_gt F.ns.lt
  · rintro i v m₁ news₁ h tk3 I hv hI ⟨vals, n, frs', rfl, SU, Fs, hm, hav⟩ F3 N3 hit hlist
    have F4 := pin F3 (a := Str.ofString "result") hm
    have hIr : I ≠ r := by
      intro e; subst e
      rw [Heap.get?_push_of_some _ (N _ (.head _)).1] at hI; cases hI
    have hlr : h'.objs.size ≠ r := Nat.ne_of_gt hr
    have hof : OwnOff frs' [r] := by
      intro p hp b hb e
      rw [List.mem_singleton.mp hb] at e
      have : p.1 ∈ frA frs := by rw [← sameUp_addr SU]; exact List.mem_map.mpr ⟨p, hp, rfl⟩
      obtain ⟨q, hq, e'⟩ := List.mem_map.mp this
      have := hrf q hq
      rw [e', e] at this
      exact Nat.lt_irrefl _ this
    obtain ⟨oI, hoI, hcI⟩ := id hit
    obtain ⟨ol, hol, hcl⟩ := id hlist
    have hIL : I ≠ L := by
      rintro rfl
      obtain ⟨oL, _, _, hL, _⟩ := F.ns
      rw [Heap.get?_push_of_some _ hL] at hI; cases hI
    have hI0 : (bas s.heap frs).get? I = none := by
      cases q : (bas s.heap frs).get? I with
      | none => rfl
      | some o => rw [Heap.get?_push_of_some _ (F.keep I o q)] at hI; cases hI
    have hl0' : (bas s.heap frs).get? h'.objs.size = none := Heap.get?_none_of_le (Nat.le_trans F.above (Nat.le_of_lt F.ns.lt))
    have N4 : News (bas s.heap frs) L h ((r, W.listOf vals.toArray n) :: (I, oI) :: (h'.objs.size, ol) :: frs') := by
      intro p hp
      rcases List.mem_cons.mp hp with rfl | hp
      · exact N3 _ (.head _)
      · rcases List.mem_cons.mp hp with rfl | hp
        · exact ⟨hoI, hIL, hI0⟩
        · rcases List.mem_cons.mp hp with rfl | hp
          · exact ⟨hol, Nat.ne_of_gt F.ns.lt, hl0'⟩
          · exact N3 p (.tail _ hp)
    have hdone : ∀ (h₂ : Heap), News (bas s.heap frs) L h₂ [(I, oI), (h'.objs.size, ol)] → ∀ b, (b = I ∨ b = h'.objs.size) → ∀ o, h.get? b = some o → h₂.get? b = some o := by
      rintro h₂ n₂ b (rfl | rfl) o e
      · rw [hoI] at e; cases e; exact (n₂ _ (.head _)).1
      · rw [hol] at e; cases e; exact (n₂ _ (.tail _ (.head _))).1
    have hap : ∀ q ∈ [(r, W.listOf vals.toArray n), (I, oI), (h'.objs.size, ol)], q.1 ∉ frA frs' := by
      intro q hq hm
      rw [sameUp_addr SU] at hm
      obtain ⟨p, hp, e⟩ := List.mem_map.mp hm
      have hp' := (N p (.tail _ hp)).1
      rcases List.mem_cons.mp hq with rfl | hq
      · have := hrf p hp
        rw [show p.1 = r from e] at this
        exact Nat.lt_irrefl _ this
      · rcases List.mem_cons.mp hq with rfl | hq
        · have e' : p.1 = I := e
          rw [e'] at hp'
          rw [Heap.get?_push_of_some _ hp'] at hI; cases hI
        · rw [List.mem_singleton.mp hq] at e
          exact absurd (Heap.lt_size hp') (by rw [show p.1 = h'.objs.size from e]; exact Nat.lt_irrefl _)
    have hvz : vals.length ≤ 100000 := by
      rw [hav.length]
      have h1 := toks_length x.cps x.cps.size 0
      have h2 := atoms_le ((toks x.cps x.cps.size 0).take i)
      have h3 : ((toks x.cps x.cps.size 0).take i).length ≤ (toks x.cps x.cps.size 0).length := by rw [List.length_take]; omega
      omega
    clear N3
    clear F2 N2 F N hm F3
    obtain ⟨vx, hvx, vt, rfl⟩ := hsv.at hv
    have htok := hT vx (List.mem_of_getElem? hvx)
    have hnext : (((toks x.cps x.cps.size 0).take (i + 1)).flatMap atomsOf) = (((toks x.cps x.cps.size 0).take i).flatMap atomsOf) ++ atomsOf vx := by
      rw [List.take_add_one, hvx]; simp
    rw [hnext]
    dsimp only at hit hlist hI ⊢
    refine wpC_execs_cons (wpC_If (wpC_of_any ?_))
    k_steps
    · rename_i hskip
      have hs : skipTok vx = false := by unfold skipTok; rw [hskip]; rfl
      refine wpC_execs_cons (wpC_Try_except ?_)
      rcases htok with hk | ⟨num, hk, hlen⟩ | ⟨hk, hw1, hw2, hw3⟩
      · rw [hs] at hk; cases hk
      · have ha : atomsOf vx = [.i 100, .i num] := by unfold atomsOf; rw [hs, hk]; rfl
        refine wpC_of_any ?_
        k_steps
        refine int_num hk hlen ?_
        k_steps
        dsimp only
        refine wpC_execs_any ?_
        k_steps
        rename Fr _ _ _ _ => F7
        rename News _ _ _ _ => N7
        rename_i l7
        refine extend_pair F7 N7 (Nat.ne_of_gt l7.1) ?_ hvz ?_
        · intro p hp
          rcases List.mem_cons.mp hp with rfl | hp
          · exact hIr
          · rcases List.mem_cons.mp hp with rfl | hp
            · exact hlr
            · exact hof p hp r (List.mem_singleton.mpr rfl)
        intro h8 F8 N8
        refine wpC_execs_nil (wpC_execs_nil ?_)
        obtain ⟨N9, N10⟩ := news_pick N8
        exact ⟨_, _, _, _, rfl, F8, N9, hdone h8 N10, _, _, frs', rfl, SU, Fs, rfl, by rw [ha]; exact hav.append (.int (.int .nil))⟩
      · have ha : atomsOf vx = [.i (stageOf vx), .s vx] := by unfold atomsOf; rw [hs, hk]; rfl
        refine wpC_execs_cons (wpC_Assign_Name (wpC_Call_Name ?_))
        k_steps
        refine wpC_callWith_type1 ?_
        k_steps
        refine int_word hw1 hw2 hw3 hh ?_
        intro h5 tk5 e5 hx5
        refine caught_C (new := [(r, W.listOf vals.toArray n), (I, oI), (h'.objs.size, ol)]) hA Fs hx5 F4 N4 hap T ?_
        intro h6 frs6 SU6 Fs6 F6 N6
        clear N4 F4
        k_steps
        rename PyProof.V.Flat _ _ => hfl
        obtain ⟨t9, rfl⟩ := stage_flat hfl
        dsimp only
        refine wpC_execs_any ?_
        k_steps
        rename Fr _ _ _ _ => F7
        rename News _ _ _ _ => N7
        rename_i l7
        have hof6 : ∀ p ∈ frs6, p.1 ≠ r := by
          intro p hp e
          have : p.1 ∈ frA frs' := by rw [← sameUp_addr SU6]; exact List.mem_map.mpr ⟨p, hp, rfl⟩
          exact hap _ (.head _) (e ▸ this)
        refine extend_pair F7 N7 (Nat.ne_of_gt (l7 _ (.head _))) ?_ hvz ?_
        · intro p hp
          rcases List.mem_cons.mp hp with rfl | hp
          · exact hIr
          · rcases List.mem_cons.mp hp with rfl | hp
            · exact hlr
            · exact hof6 p hp
        intro h8 F8 N8
        refine wpC_execs_nil (wpC_execs_nil ?_)
        obtain ⟨N9, N10⟩ := news_pick N8
        exact ⟨_, _, _, _, rfl, F8, N9, hdone h8 N10, _, _, frs6, rfl, SU.trans SU6, Fs6, rfl, by rw [ha]; exact hav.append (.int (.str .nil))⟩
    · rename_i hskip
      have hs : skipTok vx = true := by unfold skipTok; rw [hskip]; rfl
      have ha : atomsOf vx = [] := by unfold atomsOf; rw [hs]; rfl
      have N4' : News (bas s.heap frs) L h ((r, W.listOf vals.toArray n) :: frs') := fun p hp => N4 p ((List.mem_cons.mp hp).elim (fun e => e ▸ .head _) fun q => .tail _ (.tail _ (.tail _ q)))
      refine wpC_execs_nil (wpC_execs_nil ?_)
      exact ⟨_, _, _, _, rfl, F4, N4', fun b hb o e => e, vals, n, frs', rfl, SU, Fs, rfl, by rw [ha, List.append_nil]; exact hav⟩
  · rintro i m' news' ⟨vals, n, frs', rfl, SU, Fs, hm, hav⟩ p hp e
    have e' : p.1 = h'.objs.size + 1 := by rw [e]; exact Heap.size_push _ _
    rcases List.mem_cons.mp hp with rfl | hp
    · have : r = h'.objs.size + 1 := e'
      exact absurd hr (by rw [this]; exact Nat.not_lt.mpr (Nat.le_succ _))
    · have : p.1 ∈ frA frs := by rw [← sameUp_addr SU]; exact List.mem_map.mpr ⟨p, hp, rfl⟩
      obtain ⟨q, hq, e2⟩ := List.mem_map.mp this
      have h1 := hrf q hq
      rw [show q.1 = p.1 from e2, e'] at h1
      exact absurd (Nat.lt_trans h1 hr) (Nat.not_lt.mpr (Nat.le_succ _))
  · rintro m₁ news₁ h9 tk9 ⟨vals, n, frs', rfl, SU, Fs, hm, hav⟩ F9 N9
    have F10 := pin F9 (a := Str.ofString "result") hm
    rw [hsv.length, List.take_length] at hav
    have hr0 : s.heap.get? r = none := by
      cases q : s.heap.get? r with
      | none => rfl
      | some o =>
        have h1 := (N _ (.head _)).2.2
        rw [TI.gone_get fun hm => by obtain ⟨p, hp, e⟩ := List.mem_map.mp hm; have := hrf p hp; rw [show p.1 = r from e] at this; exact Nat.lt_irrefl _ this, q] at h1
        cases h1
    have hget := (N9 _ (.head _)).1
    have hthere : ∀ p ∈ frs', h9.get? p.1 = some p.2 := fun p hp => (N9 p (.tail _ hp)).1
    clear F F2 N N2 F9
    dsimp only
    refine wpC_execs_any ?_
    k_steps
    exact k _ _ _ _ _ _ (Kx.of F10 SU hthere) hget hr0 hav
end Mine
end
section
open PySem PySem.W PyProof.Rows PySem.Calls
set_option Elab.async false
set_option linter.unusedVariables false
set_option maxRecDepth 100000
namespace Mine
section
variable {M : Model} {A : PySem.Around} {E : Value → Shared → Prop} {s : Shared} {env : Env}
/-- a def of K called with plain arguments and keywords -/
theorem wpC_call_K {K : Frag} {pos : Pos} {f : Addr} {oc : Value} {od : Option Addr} {osl : Array (Option Value)} {fd : FuncData} {e : PySem.Expr} {rest : List PySem.Expr} {kws : List Keyword} {Q : Value → Shared → Prop}
    (ho : K.lookup f = some ⟨oc, od, .func fd, osl⟩)
    (h : wpC M A (spliced (backTo pos (starEach (e :: rest) env))) (fun vs s₁ => wpC M A (evalAll ((backToKw pos (keywordEach kws env)).map (·.2)))
      (fun ks s₂ => K.In s₂.heap ∧ wpC M A (call (.ref f) vs (((backToKw pos (keywordEach kws env)).filterMap (·.1)).zip ks)) Q E s₂) E s₁) E s)
    (hall : (backToKw pos (keywordEach kws env)).all (·.1.isSome) = true := by rfl)
    (he : starEach (e :: rest) env = (false, eval e env) :: starEach rest env := by rfl) :
    wpC M A (callWith pos (.ref f) [] (backTo pos (starEach (e :: rest) env)) (backToKw pos (keywordEach kws env))) Q E s :=
  wpC_call_args (o := ⟨oc, od, .func fd, osl⟩) (fd := fd) rfl (wpC_mono h (fun vs s₁ h₁ => wpC_mono h₁ (fun ks s₂ h₂ => ⟨h₂.1 _ _ ho, h₂.2⟩) fun _ _ x => x) fun _ _ x => x) hall he
theorem wpC_evalAll_nil {Q : List Value → Shared → Prop} (h : Q [] s) : wpC M A (evalAll []) Q E s := by
  rw [evalAll]; exact wpC_pure h
theorem wpC_evalAll_cons {x : Sem Value} {rest : List (Sem Value)} {Q : List Value → Shared → Prop} (h : wpC M A x (fun v s₁ => wpC M A (evalAll rest) (fun vs s₂ => Q (v :: vs) s₂) E s₁) E s) : wpC M A (evalAll (x :: rest)) Q E s := by
  rw [evalAll]
  exact wpC_bind (wpC_mono h (fun v s₁ h₁ => wpC_bind (wpC_holding (wpC_mono h₁ (fun vs s₂ h₂ => wpC_pure h₂) fun _ _ x => x))) fun _ _ x => x)
theorem wpC_call_K0 {K : Frag} {pos : Pos} {f : Addr} {oc : Value} {od : Option Addr} {osl : Array (Option Value)} {fd : FuncData} {e : PySem.Expr} {rest : List PySem.Expr} {Q : Value → Shared → Prop}
    (ho : K.lookup f = some ⟨oc, od, .func fd, osl⟩)
    (h : wpC M A (spliced (backTo pos (starEach (e :: rest) env))) (fun vs s₁ => K.In s₁.heap ∧ wpC M A (call (.ref f) vs []) Q E s₁) E s)
    (he : starEach (e :: rest) env = (false, eval e env) :: starEach rest env := by rfl) :
    wpC M A (callWith pos (.ref f) [] (backTo pos (starEach (e :: rest) env)) (backToKw pos (keywordEach [] env))) Q E s :=
  wpC_call_K ho (wpC_mono h (fun vs s₁ h₁ => wpC_evalAll_nil h₁) fun _ _ x => x) rfl he
theorem wpC_call_K1 {K : Frag} {pos px kp : Pos} {f : Addr} {x y : Str} {oc : Value} {od : Option Addr} {osl : Array (Option Value)} {fd : FuncData} {e : PySem.Expr} {rest : List PySem.Expr} {Q : Value → Shared → Prop}
    (ho : K.lookup f = some ⟨oc, od, .func fd, osl⟩)
    (h : wpC M A (spliced (backTo pos (starEach (e :: rest) env))) (fun vs s₁ => wpAny M A (eval (.Name y px) env) (fun v s₂ => K.In s₂.heap ∧ wpC M A (call (.ref f) vs [(x, v)]) Q E s₂) E s₁) E s)
    (he : starEach (e :: rest) env = (false, eval e env) :: starEach rest env := by rfl)
    (hx : (backToKw pos (keywordEach [⟨some x, .Name y px, kp⟩] env)) = [(some x, do let v ← eval (.Name y px) env; standAt pos; pure v)] := by rfl) :
    wpC M A (callWith pos (.ref f) [] (backTo pos (starEach (e :: rest) env)) (backToKw pos (keywordEach [⟨some x, .Name y px, kp⟩] env))) Q E s := by
  refine wpC_call_K ho (wpC_mono h (fun vs s₁ h₁ => ?_) fun _ _ x => x) (by rw [hx]; rfl) he
  rw [hx]
  exact wpC_evalAll_cons (wpC_step (wpAny_mono h₁ (fun v s₂ h₂ => wpC_standAt (wpC_pure (wpC_evalAll_nil h₂))) fun _ _ x => x))
theorem Fr.off {h₀ h : Heap} {L b : Addr} {o : Obj} {m : Str → Option Value} (F : Fr h₀ L h m) (e : h₀.get? b = some o) : b ≠ L := Nat.ne_of_lt (Nat.lt_of_lt_of_le (Heap.lt_size e) F.above)
end
end Mine
end
section
open PySem PySem.W PyProof.Rows PySem.Calls
set_option Elab.async false
set_option linter.unusedVariables false
set_option maxRecDepth 100000
namespace Mine
section
variable {prog : Program} {w : World} {A : PySem.Around} {E : Value → Shared → Prop} {s : Shared} {h₀ hb : Heap} {outer : List Env} {frs news : List (Addr × Obj)} {L g : Addr} {m : Str → Option Value} {name : Str} {scope : Scope} {cd : Value}
  {f : Value} {pos : List Value} {kw : List (Str × Value)} {Q : Value → Shared → Prop} {a : Addr} {o : Obj}
/-- a contract used at a call from a body -/
theorem at_C (P : Value → Heap → Prop) (hb0 : ∀ b o, h₀.get? b = some o → hb.get? b = some o) (F : Fr hb L s.heap m) (N : News hb L s.heap (news ++ frs)) (Fs : TI.Frs outer frs) (hap : ∀ p ∈ news, p.1 ∉ frA frs) (hA : A.frames = some outer)
    (h : ∀ oL, Bs h₀ (envOf name scope L g cd :: outer) ((L, oL) :: frs) s.heap → (A.deeper (envOf name scope L g cd)).frames = some (envOf name scope L g cd :: outer) →
      codeC (model prog w) (A.deeper (envOf name scope L g cd)) (.call f ⟨pos, kw⟩) (fun r s' => ∃ v h' tk' frs₂, r = .ok (.ret v) ∧ s' = { s with heap := h', toks := tk' } ∧ Kx ((L, oL) :: frs) frs₂ s.heap h' ∧ P v h') s)
    (k : ∀ v h' tk' frs', TI.SameUp frs frs' → TI.Frs outer frs' → frA frs' = frA frs → Fr hb L h' m → News hb L h' (news ++ frs') → P v h' → Q v { s with heap := h', toks := tk' })
    (hk : scope.kind = .function := by rfl) : wpC (model prog w) (A.deeper (envOf name scope L g cd)) (call f pos kw) Q E s := by
  obtain ⟨oL, B', ns⟩ := bs_of (h₀ := h₀) (name := name) (scope := scope) (a := g) (cd := cd) hb0 F N Fs hk
  refine wpC_call (codeC_mono (h oL B' (by simp [Around.deeper, hA])) fun r s' h' => ?_)
  obtain ⟨v, h2, tk2, frs₂, rfl, rfl, K, p⟩ := h'
  obtain ⟨frs5, SU5, Fs5, ea5, F5, N5, keep5⟩ := back_of F N Fs hap ns K
  exact k v h2 tk2 frs5 SU5 Fs5 ea5 F5 N5 p
/-- .. of a call that turns one thing of the ledger -/
structure Ky (a : Addr) (frs frs' : List (Addr × Obj)) (h h' : Heap) : Prop where
  up : TI.SameUp frs frs'
  there : ∀ p ∈ frs', h'.get? p.1 = some p.2
  keep : ∀ b o, b ∉ frA frs → b ≠ a → h.get? b = some o → h'.get? b = some o
theorem Kx.ky {frs frs' : List (Addr × Obj)} {h h' : Heap} (k : Kx frs frs' h h') : Ky a frs frs' h h' := ⟨k.up, k.there, fun b o h1 _ e => k.keep b o h1 e⟩
end
end Mine
end
section
open PySem PySem.W PyProof.Rows PySem.Calls
set_option Elab.async false
set_option linter.unusedVariables false
set_option maxRecDepth 100000
namespace Mine
theorem deeper_room {A : PySem.Around} {env : Env} {n k : Nat} (h : A.depth + (n + 1) < k) : (A.deeper env).depth + n < k := by
  show A.depth + 1 + n < k; omega
theorem cv_at {w : World} {mg mb : Str → Option Value} {A : PySem.Around} {E : Value → Shared → Prop} {s : Shared} {h₀ hb : Heap} {outer : List Env} {frs news : List (Addr × Obj)} {L g : Addr} {m : Str → Option Value} {name : Str} {scope : Scope} {cd : Value}
    {x : Str} {tk : Tok} {Q : Value → Shared → Prop}
    (G : Gd w mg mb h₀) (hb0 : ∀ b o, h₀.get? b = some o → hb.get? b = some o) (F : Fr hb L s.heap m) (N : News hb L s.heap (news ++ frs)) (Fs : TI.Frs outer frs) (hap : ∀ p ∈ news, p.1 ∉ frA frs) (hA : A.frames = some outer)
    (hroom : A.depth + 11 < recursionLimit) (hh : A.handled = none) (hx : LabOk x)
    (k : ∀ h' tk' frs' a vs n, TI.SameUp frs frs' → TI.Frs outer frs' → frA frs' = frA frs → Fr hb L h' m → News hb L h' ((a, W.listOf (List.toArray vs) n) :: (news ++ frs')) → (∀ p ∈ news ++ frs', p.1 ≠ a) → AV vs (keyOf x) → Q (.ref a) { s with heap := h', toks := tk' })
    (hk : scope.kind = .function := by rfl) :
    wpC (model Challenge.rw_ph0088_02.row.prog w) (A.deeper (envOf name scope L g cd)) (call (.ref 80) [.str x tk]) Q E s := by
  refine at_C (h₀ := h₀) (fun v h' => ∃ a vs n, v = .ref a ∧ h'.get? a = some (W.listOf (List.toArray vs) n) ∧ s.heap.get? a = none ∧ AV vs (keyOf x)) hb0 F N Fs hap hA (fun oL B' hA' => ?_) ?_ hk
  · refine cv_spec G B' hA' (deeper_room hroom) hh hx.size hx.ok ?_
    intro h' tk' frs' a vs n K ha hn hav
    exact ⟨_, h', tk', frs', rfl, rfl, K, a, vs, n, rfl, ha, hn, hav⟩
  · rintro v h' tk' frs' SU Fs' ea F' N' ⟨a, vs, n, rfl, ha, hn, hav⟩
    refine k h' tk' frs' a vs n SU Fs' ea F' ?_ ?_ hav
    · intro p hp
      rcases List.mem_cons.mp hp with rfl | hp
      · refine ⟨ha, ?_, ?_⟩
        · rintro rfl
          obtain ⟨oL, _, _, hL, _⟩ := F.ns
          rw [hL] at hn; cases hn
        · cases q : hb.get? a with
          | none => rfl
          | some o => rw [F.keep a o q] at hn; cases hn
      · exact N' p hp
    · intro p hp e
      rcases List.mem_append.mp hp with hp | hp
      · have := (N p (List.mem_append_left _ hp)).1
        rw [e, hn] at this; cases this
      · have : p.1 ∈ frA frs := by rw [← ea]; exact List.mem_map.mpr ⟨p, hp, rfl⟩
        obtain ⟨q, hq, e'⟩ := List.mem_map.mp this
        have := (N q (List.mem_append_right _ hq)).1
        rw [show q.1 = p.1 from e', e, hn] at this; cases this
end Mine
end
section
open PySem PySem.W PyProof.Rows PySem.Calls
set_option Elab.async false
set_option linter.unusedVariables false
set_option maxRecDepth 100000
namespace Mine
/-- what a def of the fragment is -/
noncomputable def fnD : Option Obj → FuncData
  | some ⟨_, _, .func fd, _⟩ => fd
  | _ => default
/-- the bisect's arithmetic -/
theorem bis_hm {lo hi : Nat} : ((lo : Int) + (hi : Int)).fdiv 2 = (((lo + hi) / 2 : Nat) : Int) := by rw [Int.fdiv_eq_ediv_of_nonneg _ (by decide)]; omega
theorem bis_mid {lo hi mid : Nat} (h : lo < hi) (e : (lo + hi) / 2 = mid) : lo ≤ mid ∧ mid < hi := by omega
theorem bis_up {lo hi mid : Nat} (h1 : lo ≤ mid) (h2 : mid < hi) : hi - (mid + 1) < hi - lo := by omega
theorem bis_dn {lo hi mid : Nat} (h1 : lo ≤ mid) (h2 : mid < hi) : mid - lo < hi - lo := by omega
theorem bis_lt {lo hi : Nat} (h : (lo : Int) < (hi : Int)) : lo < hi := by omega
theorem bis_end {lo hi r : Nat} (h : ¬ (lo : Int) < (hi : Int)) (e2 : lo ≤ r) (e3 : r ≤ hi) : lo = r := by omega
theorem nat63 {n : Nat} (h : n ≤ 1000) : (n : Int) < 2 ^ 63 := by omega
theorem units_lt0 {a b c : Nat} (h : a + b < c) : a < c := Nat.lt_of_le_of_lt (Nat.le_add_right _ _) h
theorem units_lt2 {a b c d e : Nat} (h : a + b < c) (hd : d + e ≤ b) : a + d + e < c := by rw [Nat.add_assoc]; exact Nat.lt_of_le_of_lt (Nat.add_le_add_left hd _) h
theorem lt16 : ∀ i : Nat, i < 16 → i = 0 ∨ i = 1 ∨ i = 2 ∨ i = 3 ∨ i = 4 ∨ i = 5 ∨ i = 6 ∨ i = 7 ∨ i = 8 ∨ i = 9 ∨ i = 10 ∨ i = 11 ∨ i = 12 ∨ i = 13 ∨ i = 14 ∨ i = 15 := by decide +kernel
theorem fmod5 {a b : Nat} : ((a : Int) + (b : Int)).fmod 5 = (((a + b) % 5 : Nat) : Int) := by rw [Int.fmod_eq_emod_of_nonneg _ (by decide)]; omega
theorem fmod3 {a b : Nat} : ((a : Int) + (b : Int)).fmod 3 = (((a + b) % 3 : Nat) : Int) := by rw [Int.fmod_eq_emod_of_nonneg _ (by decide)]; omega
theorem gt0 {i : Nat} (h : (i : Int) > 0) : ¬ i = 0 := by omega
theorem ngt0 {i : Nat} (h : ¬ (i : Int) > 0) : i = 0 := by omega
theorem im1 {i : Nat} (h : ¬ i = 0) (h3 : i < 3) : 0 ≤ (i : Int) - 1 ∧ (i : Int) - 1 < 2 ^ 63 ∧ ((i : Int) - 1).toNat = i - 1 := by omega
theorem units_lt {a b c d : Nat} (h : a + b < c) (hd : d ≤ b) : a + d < c := by omega
end Mine
end
section
open PySem PySem.W PyProof.Rows PySem.Calls
set_option Elab.async false
set_option linter.unusedVariables false
set_option maxRecDepth 100000
namespace Mine
/-- a turn's end; own: what the loop keeps -/
noncomputable def LEnd (h₀ : Heap) (L : Addr) (J : (Str → Option Value) → List (Addr × Obj) → Prop) (own : List (Addr × Obj)) (s₁ s₂ : Shared) : Prop :=
  ∃ h' tk m' news', s₂ = { s₁ with heap := h', toks := tk } ∧ Fr h₀ L h' m' ∧ News h₀ L h' (own ++ news') ∧ J m' news'
noncomputable def LPost (h₀ : Heap) (L : Addr) (J : (Str → Option Value) → List (Addr × Obj) → Prop) (own : List (Addr × Obj)) (s₁ : Shared) (R : Result → Shared → Prop) (f : Flow) (s₂ : Shared) : Prop :=
  match f with
  | .ret v => R (.ok (.ret v)) s₂
  | .brk => R (.ok .next) s₂
  | _ => LEnd h₀ L J own s₁ s₂
section
variable {prog : Program} {w : World} {A : PySem.Around} {E : Value → Shared → Prop} {s : Shared} {env : Env} {h₀ : Heap} {x : Str} {px : Pos} {body : List Stmt} {R : Result → Shared → Prop}
theorem loopC_list {l : Addr} {vs : List Value} {m₀ : Str → Option Value} {news : List (Addr × Obj)} (J : Nat → (Str → Option Value) → List (Addr × Obj) → Prop)
    (hh : A.handled = none) (hl : s.heap.IsList l vs.toArray) (hlL : l ≠ env.locals) (hl0 : h₀.get? l = none) (F : Fr h₀ env.locals s.heap m₀) (N : News h₀ env.locals s.heap news) (hj : J 0 m₀ news)
    (turn : ∀ i v m₁ news₁ h tk own, vs[i]? = some v → (∀ p ∈ own, p.1 = l ∨ p.1 = s.heap.objs.size) → (∃ o, (s.heap.objs.size, o) ∈ own) → J i m₁ news₁ → Fr h₀ env.locals h (fun y => if y = x then some v else m₁ y) → News h₀ env.locals h (own ++ news₁) →
      wpC (model prog w) A (execs body env) (LPost h₀ env.locals (J (i + 1)) own { s with heap := h, toks := tk } R) NoE { s with heap := h, toks := tk })
    (hna : ∀ i m' news', J i m' news' → ∀ p ∈ news', p.1 ≠ s.heap.objs.size)
    (done : ∀ m₁ news₁ h tk, J vs.length m₁ news₁ → Fr h₀ env.locals h m₁ → News h₀ env.locals h news₁ → R (.ok .next) { s with heap := h, toks := tk })
    (hx : env.kindOf x = some .local := by rfl)
    (hp : (env.scope.kind == .class || (env.scope.kind == .module && env.locals != env.globals)) = false := by rfl) :
    wpAny (model prog w) A (pyIter (.ref l)) (fun it s₂ => codeC (model prog w) A (.forLoop (.Name x px) it body [] env) R s₂) E s := by
  obtain ⟨ol, hol, _⟩ := id hl
  have hlt : l < s.heap.objs.size := Heap.lt_size hol
  have hLI : env.locals ≠ s.heap.objs.size := Nat.ne_of_lt F.ns.lt
  have hI0 : h₀.get? s.heap.objs.size = none := Heap.get?_none_of_le (Nat.le_trans F.above (Nat.le_of_lt F.ns.lt))
  refine wpAny_pyIter_list hl ?_
  have W := Walks.list (prog := prog) (w := w) hh s.heap.objs.size l (Nat.ne_of_lt hlt) vs.toArray
  rw [List.size_toArray] at W
  refine codeC_forLoop (fun k s' => ∃ h' tk m' news' i, s' = { s with heap := h', toks := tk } ∧ (h'.IsListIter s.heap.objs.size l i ∧ h'.IsList l vs.toArray) ∧ Fr h₀ env.locals h' m' ∧ News h₀ env.locals h' news' ∧ J i m' news' ∧ i ≤ vs.length ∧ k = vs.length + 1 - i) ?_ (vs.length + 1)
    ⟨_, _, m₀, news, 0, rfl, ⟨⟨_, Heap.get?_push_size _ rfl, rfl, rfl⟩, hl.at fun o e => Heap.get?_push_of_some _ e⟩, F.push _, (fun p hp => ⟨Heap.get?_push_of_some _ (N p hp).1, (N p hp).2⟩), hj, Nat.zero_le _, rfl⟩
  rintro k s' ⟨h', tk, m', news', i, rfl, hst, F', N', hJ, hi, rfl⟩
  have hnw := hna i m' news' hJ
  have next : ∀ h₁ : Heap, (∀ b o, b ∉ [s.heap.objs.size] → h'.get? b = some o → h₁.get? b = some o) → Fr h₀ env.locals h₁ m' ∧ News h₀ env.locals h₁ news' := fun h₁ hk₁ =>
    ⟨⟨F'.ns.at' fun o e => hk₁ _ o (fun q => hLI (List.mem_singleton.mp q)) e, fun b o e => hk₁ b o (fun q => by rw [List.mem_singleton.mp q, hI0] at e; cases e) (F'.keep b o e), F'.above⟩,
     fun p hp => ⟨hk₁ _ _ (fun q => hnw p hp (List.mem_singleton.mp q)) (N' p hp).1, (N' p hp).2⟩⟩
  by_cases hlt' : i < vs.length
  · refine W.item i _ _ _ hlt' hst fun v h₁ tk₁ hP hst₁ hk₁ => ?_
    obtain ⟨F₁, N₁⟩ := next h₁ hk₁
    refine wpAny_assign_Name (wpAny_storeName_local hx F₁.ns (fun h₂ hn₂ hs₂ => ?_) hp)
    have F₂ := F₁.set hn₂ hs₂
    have N₂ := N₁.set hs₂
    have hst₂ := W.frame _ _ h₂ hst₁ fun b hb o e => (hs₂.2 b fun q => by
      rcases List.mem_cons.mp hb with r | r
      · exact hLI (q ▸ r)
      · exact hlL ((List.mem_singleton.mp r).symm.trans q)).trans e
    have hP' : vs[i]? = some v := by simpa using hP
    obtain ⟨oI, hoI, _⟩ := id hst₂.1
    obtain ⟨ol2, hol2, _⟩ := id hst₂.2
    have own3 : News h₀ env.locals h₂ ([(s.heap.objs.size, oI), (l, ol2)] ++ news') := by
      intro p hp
      rcases List.mem_cons.mp hp with rfl | hp
      · exact ⟨hoI, hLI.symm, hI0⟩
      · rcases List.mem_cons.mp hp with rfl | hp
        · exact ⟨hol2, hlL, hl0⟩
        · exact N₂ p hp
    have fin : ∀ tkz s₃, LEnd h₀ env.locals (J (i + 1)) [(s.heap.objs.size, oI), (l, ol2)] { s with heap := h₂, toks := tkz } s₃ → ∃ m, m < vs.length + 1 - i ∧ ∃ h' tk m' news' i, s₃ = { s with heap := h', toks := tk } ∧ (h'.IsListIter s.heap.objs.size l i ∧ h'.IsList l vs.toArray) ∧ Fr h₀ env.locals h' m' ∧ News h₀ env.locals h' news' ∧ J i m' news' ∧ i ≤ vs.length ∧ m = vs.length + 1 - i := by
      rintro tkz s₃ ⟨h₃', tk₃, m₂, news₂, rfl, F₃, N₃, hJ₃⟩
      refine ⟨vs.length + 1 - (i + 1), by omega, h₃', tk₃, m₂, news₂, i + 1, rfl, ⟨hst₂.1.at fun o e => ?_, hst₂.2.at fun o e => ?_⟩, F₃, fun p hp => N₃ p (List.mem_append_right _ hp), hJ₃, hlt', rfl⟩
      · rw [hoI] at e; cases e; exact (N₃ _ (.head _)).1
      · rw [hol2] at e; cases e; exact (N₃ _ (.tail _ (.head _))).1
    refine wpC_mono (turn i v m' news' h₂ _ [(s.heap.objs.size, oI), (l, ol2)] hP' (fun p hp => ?_) ⟨oI, .head _⟩ hJ F₂ own3) (fun f s₃ h₃ => ?_) fun _ _ e => e
    · rcases List.mem_cons.mp hp with rfl | hp
      · exact .inr rfl
      · rw [List.mem_singleton.mp hp]; exact .inl rfl
    · cases f with
      | ret v => exact h₃
      | brk => exact h₃
      | cont => exact fin _ s₃ h₃
      | next => exact fin _ s₃ h₃
  · have hin : i = vs.length := by omega
    subst hin
    refine W.done _ _ _ hst fun h₁ tk₁ hk₁ => ?_
    obtain ⟨F₁, N₁⟩ := next h₁ hk₁
    exact done m' news' h₁ tk₁ hJ F₁ N₁

end
end Mine
end
section
open PySem PySem.W PyProof.Rows PySem.Calls
set_option Elab.async false
set_option linter.unusedVariables false
set_option maxRecDepth 100000
namespace Mine
theorem range_nat {n : Nat} (h : n ≤ 100000) : Builtin.Range.small 0 (n : Int) 1 = true ∧ Builtin.Range.rangeSize 0 (n : Int) 1 = (n : Int) := by
  refine ⟨?_, ?_⟩
  · simp [Builtin.Range.small, Builtin.Range.rangeFitsLong, Builtin.Range.rangeSize]; omega
  · simp [Builtin.Range.rangeSize]; omega
/-- the walk stops here -/
noncomputable def Nxt (p : Prop) : Prop := p
section
variable {prog : Program} {w : World} {A : PySem.Around} {E : Value → Shared → Prop} {s : Shared} {env : Env} {h₀ : Heap} {target : PySem.Expr} {body : List Stmt} {R : Result → Shared → Prop}
theorem let_listiter {I l : Addr} {i : Nat} {v : Value} {Q : Unit → Shared → Prop} (hit : s.heap.IsListIter I l i) (hQ : Q () s) : wpAny (model prog w) A (letOwnedTupleGo target (.ref I) v) Q E s := by
  obtain ⟨o, ho, hc, hd⟩ := hit
  unfold letOwnedTupleGo
  cases target <;> try exact wpAny_pure hQ
  all_goals
    cases v <;> try exact wpAny_pure hQ
    refine wpAny_bind (wpAny_load ho ?_)
    rw [hc, hd]
    exact wpAny_pure hQ
/-- a for over a list, its turns by the library's rules -/
theorem loopA_list {ax : Addr} {Bd : Nat} {vs : List Value} {m₀ : Str → Option Value} {news : List (Addr × Obj)} (J : Nat → (Str → Option Value) → List (Addr × Obj) → Prop)
    (hBd : s.heap.objs.size = Bd) (hh : A.handled = none) (hS : ∀ i m' nx, J i m' nx → LCg.SrcAt h₀ ax vs.toArray nx) (F : Fr h₀ env.locals s.heap m₀) (N : News h₀ env.locals s.heap news) (hj : J 0 m₀ news)
    (turn : ∀ i v m₁ nx h tk own, vs[i]? = some v → (∀ p ∈ own, p.1 = Bd) → (∃ o, (Bd, o) ∈ own) → J i m₁ nx → Fr h₀ env.locals h m₁ → News h₀ env.locals h (own ++ nx) →
      wpAny (model prog w) A (assign target env v) (fun _ s₂ => Nxt (wpAny (model prog w) A (execs body env) (LPost h₀ env.locals (J (i + 1)) own { s with heap := h, toks := tk } R) NoE s₂)) NoE { s with heap := h, toks := tk })
    (hna : ∀ i m' nx, J i m' nx → ∀ p ∈ nx, p.1 ≠ Bd)
    (done : ∀ m₁ nx h tk, J vs.length m₁ nx → Fr h₀ env.locals h m₁ → News h₀ env.locals h nx → R (.ok .next) { s with heap := h, toks := tk }) :
    wpAny (model prog w) A (pyIter (.ref ax)) (fun it s₂ => codeAny (model prog w) A (.forLoop target it body [] env) R s₂) E s := by
  subst hBd
  have hl := (hS _ _ _ hj).list F.keep N
  obtain ⟨ol, hol, _⟩ := id hl
  have hlt : ax < s.heap.objs.size := Heap.lt_size hol
  have hLI : env.locals ≠ s.heap.objs.size := Nat.ne_of_lt F.ns.lt
  have hI0 : h₀.get? s.heap.objs.size = none := Heap.get?_none_of_le (Nat.le_trans F.above (Nat.le_of_lt F.ns.lt))
  refine wpAny_pyIter_list hl ?_
  have W := Walks.list (prog := prog) (w := w) hh s.heap.objs.size ax (Nat.ne_of_lt hlt) vs.toArray
  rw [List.size_toArray] at W
  refine codeAny_forLoop_any (fun k s' => ∃ h' tk m' nx i, s' = { s with heap := h', toks := tk } ∧ h'.IsListIter s.heap.objs.size ax i ∧ Fr h₀ env.locals h' m' ∧ News h₀ env.locals h' nx ∧ J i m' nx ∧ i ≤ vs.length ∧ k = vs.length + 1 - i) ?_ (vs.length + 1)
    ⟨_, _, m₀, news, 0, rfl, ⟨_, Heap.get?_push_size _ rfl, rfl, rfl⟩, F.push _, (fun p hp => ⟨Heap.get?_push_of_some _ (N p hp).1, (N p hp).2⟩), hj, Nat.zero_le _, rfl⟩
  rintro k s' ⟨h', tk, m', nx, i, rfl, hit, F', N', hJ, hi, rfl⟩
  have hnw := hna i m' nx hJ
  have hl' := (hS _ _ _ hJ).list F'.keep N'
  have next : ∀ h₁ : Heap, (∀ b o, b ∉ [s.heap.objs.size] → h'.get? b = some o → h₁.get? b = some o) → Fr h₀ env.locals h₁ m' ∧ News h₀ env.locals h₁ nx := fun h₁ hk₁ =>
    ⟨⟨F'.ns.at' fun o e => hk₁ _ o (fun q => hLI (List.mem_singleton.mp q)) e, fun b o e => hk₁ b o (fun q => by rw [List.mem_singleton.mp q, hI0] at e; cases e) (F'.keep b o e), F'.above⟩,
     fun p hp => ⟨hk₁ _ _ (fun q => hnw p hp (List.mem_singleton.mp q)) (N' p hp).1, (N' p hp).2⟩⟩
  by_cases hlt' : i < vs.length
  · refine W.item i _ _ _ hlt' ⟨hit, hl'⟩ fun v h₁ tk₁ hP hst₁ hk₁ => ?_
    obtain ⟨F₁, N₁⟩ := next h₁ hk₁
    refine let_listiter hst₁.1 ?_
    have hP' : vs[i]? = some v := by simpa using hP
    obtain ⟨oI, hoI, hoc, hod⟩ := hst₁.1
    have own3 : News h₀ env.locals h₁ ([(s.heap.objs.size, oI)] ++ nx) := by
      intro p hp
      rcases List.mem_cons.mp hp with rfl | hp
      · exact ⟨hoI, hLI.symm, hI0⟩
      · exact N₁ p hp
    refine wpAny_mono (turn i v m' nx h₁ _ [(s.heap.objs.size, oI)] hP' (fun p hp => by rw [List.mem_singleton.mp hp]) ⟨oI, .head _⟩ hJ F₁ own3) (fun _ s₂ h₂ => wpAny_mono (show wpAny _ _ _ _ _ _ from h₂) (fun f s₃ h₃ => ?_) fun _ _ x => x.elim) fun _ _ x => x.elim
    have fin : LEnd h₀ env.locals (J (i + 1)) [(s.heap.objs.size, oI)] { s with heap := h₁, toks := tk₁ } s₃ → ∃ m, m < vs.length + 1 - i ∧ ∃ h' tk m' nx i, s₃ = { s with heap := h', toks := tk } ∧ h'.IsListIter s.heap.objs.size ax i ∧ Fr h₀ env.locals h' m' ∧ News h₀ env.locals h' nx ∧ J i m' nx ∧ i ≤ vs.length ∧ m = vs.length + 1 - i := by
      rintro ⟨h₃', tk₃, m₂, nx₂, rfl, F₃, N₃, hJ₃⟩
      exact ⟨vs.length + 1 - (i + 1), by omega, h₃', tk₃, m₂, nx₂, i + 1, rfl, ⟨oI, (N₃ _ (.head _)).1, hoc, hod⟩, F₃, fun p hp => N₃ p (List.mem_append_right _ hp), hJ₃, hlt', rfl⟩
    cases f with
    | ret v => exact h₃
    | brk => exact h₃
    | cont => exact fin h₃
    | next => exact fin h₃
  · have hin : i = vs.length := by omega
    subst hin
    refine W.done _ _ _ ⟨hit, hl'⟩ fun h₁ tk₁ hk₁ => ?_
    obtain ⟨F₁, N₁⟩ := next h₁ hk₁
    exact wpAny_execs_nil (done m' nx h₁ tk₁ hJ F₁ N₁)
/-- .. over range(n) -/
theorem loopA_range {r : Addr} {Bd : Nat} {n : Nat} {b₀ : Int} {t₀ u₀ v₀ : Tok} {x : Str} {px : Pos} {m₀ : Str → Option Value} {news : List (Addr × Obj)} (J : Nat → (Str → Option Value) → List (Addr × Obj) → Prop)
    (hBd : s.heap.objs.size = Bd) (hh : A.handled = none) (hr : IsRange s.heap r 0 b₀ 1 t₀ u₀ v₀) (hb : b₀ = (n : Int)) (hnz : n ≤ 100000) (F : Fr h₀ env.locals s.heap m₀) (N : News h₀ env.locals s.heap news) (hj : J 0 m₀ news)
    (turn : ∀ i t m₁ nx h tk own, i < n → (∀ p ∈ own, p.1 = Bd) → (∃ o, (Bd, o) ∈ own) → J i m₁ nx → Fr h₀ env.locals h m₁ → News h₀ env.locals h (own ++ nx) →
      wpAny (model prog w) A (assign (.Name x px) env (.int (i : Int) t)) (fun _ s₂ => Nxt (wpAny (model prog w) A (execs body env) (LPost h₀ env.locals (J (i + 1)) own { s with heap := h, toks := tk } R) NoE s₂)) NoE { s with heap := h, toks := tk })
    (hna : ∀ i m' nx, J i m' nx → ∀ p ∈ nx, p.1 ≠ Bd)
    (done : ∀ m₁ nx h tk, J n m₁ nx → Fr h₀ env.locals h m₁ → News h₀ env.locals h nx → R (.ok .next) { s with heap := h, toks := tk }) :
    wpAny (model prog w) A (pyIter (.ref r)) (fun it s₂ => codeAny (model prog w) A (.forLoop (.Name x px) it body [] env) R s₂) E s := by
  subst hb; subst hBd
  obtain ⟨hsmall, hn⟩ := range_nat hnz
  have hLI : env.locals ≠ s.heap.objs.size := Nat.ne_of_lt F.ns.lt
  have hI0 : h₀.get? s.heap.objs.size = none := Heap.get?_none_of_le (Nat.le_trans F.above (Nat.le_of_lt F.ns.lt))
  refine wpAny_pyIter_range hr hsmall ?_
  have W := Walks.range (prog := prog) (w := w) hh s.heap.objs.size 0 1 n
  refine codeAny_forLoop (fun k s' => ∃ h' tk m' nx i, s' = { s with heap := h', toks := tk } ∧ IsRangeIter h' s.heap.objs.size (0 + (i : Nat) * 1) ((n : Int) - (i : Nat)) 1 ∧ Fr h₀ env.locals h' m' ∧ News h₀ env.locals h' nx ∧ J i m' nx ∧ i ≤ n ∧ k = n + 1 - i) ?_ (n + 1)
    ⟨_, _, m₀, news, 0, rfl, by show IsRangeIter _ _ _ _ _; rw [hn]; simpa using Heap.get?_push_size _ rfl, F.push _, (fun p hp => ⟨Heap.get?_push_of_some _ (N p hp).1, (N p hp).2⟩), hj, Nat.zero_le _, rfl⟩
  rintro k s' ⟨h', tk, m', nx, i, rfl, hst, F', N', hJ, hi, rfl⟩
  have hnw := hna i m' nx hJ
  have next : ∀ h₁ : Heap, (∀ b o, b ∉ [s.heap.objs.size] → h'.get? b = some o → h₁.get? b = some o) → Fr h₀ env.locals h₁ m' ∧ News h₀ env.locals h₁ nx := fun h₁ hk₁ =>
    ⟨⟨F'.ns.at' fun o e => hk₁ _ o (fun q => hLI (List.mem_singleton.mp q)) e, fun b o e => hk₁ b o (fun q => by rw [List.mem_singleton.mp q, hI0] at e; cases e) (F'.keep b o e), F'.above⟩,
     fun p hp => ⟨hk₁ _ _ (fun q => hnw p hp (List.mem_singleton.mp q)) (N' p hp).1, (N' p hp).2⟩⟩
  by_cases hlt' : i < n
  · refine W.item i _ _ _ hlt' hst fun v h₁ tk₁ hP hst₁ hk₁ => ?_
    obtain ⟨t, rfl⟩ := hP
    obtain ⟨F₁, N₁⟩ := next h₁ hk₁
    obtain ⟨oI, hoI⟩ : ∃ oI, h₁.get? s.heap.objs.size = some oI := ⟨_, hst₁⟩
    have own3 : News h₀ env.locals h₁ ([(s.heap.objs.size, oI)] ++ nx) := by
      intro p hp
      rcases List.mem_cons.mp hp with rfl | hp
      · exact ⟨hoI, hLI.symm, hI0⟩
      · exact N₁ p hp
    rw [show (0 : Int) + (i : Int) * 1 = (i : Int) by omega]
    refine wpAny_mono (turn i t m' nx h₁ _ [(s.heap.objs.size, oI)] hlt' (fun p hp => by rw [List.mem_singleton.mp hp]) ⟨oI, .head _⟩ hJ F₁ own3) (fun _ s₂ h₂ => wpAny_mono (show wpAny _ _ _ _ _ _ from h₂) (fun f s₃ h₃ => ?_) fun _ _ x => x.elim) fun _ _ x => x.elim
    have fin : LEnd h₀ env.locals (J (i + 1)) [(s.heap.objs.size, oI)] { s with heap := h₁, toks := tk₁ } s₃ → ∃ m, m < n + 1 - i ∧ ∃ h' tk m' nx i, s₃ = { s with heap := h', toks := tk } ∧ IsRangeIter h' s.heap.objs.size (0 + (i : Nat) * 1) ((n : Int) - (i : Nat)) 1 ∧ Fr h₀ env.locals h' m' ∧ News h₀ env.locals h' nx ∧ J i m' nx ∧ i ≤ n ∧ m = n + 1 - i := by
      rintro ⟨h₃', tk₃, m₂, nx₂, rfl, F₃, N₃, hJ₃⟩
      exact ⟨n + 1 - (i + 1), by omega, h₃', tk₃, m₂, nx₂, i + 1, rfl, (N₃ _ (.head _)).1.trans (hoI.symm.trans hst₁), F₃, fun p hp => N₃ p (List.mem_append_right _ hp), hJ₃, hlt', rfl⟩
    cases f with
    | ret v => exact h₃
    | brk => exact h₃
    | cont => exact fin h₃
    | next => exact fin h₃
  · have hin : i = n := by omega
    subst hin
    refine W.done _ _ _ hst fun h₁ tk₁ hk₁ => ?_
    obtain ⟨F₁, N₁⟩ := next h₁ hk₁
    exact wpAny_execs_nil (done m' nx h₁ tk₁ hJ F₁ N₁)
end
end Mine
end
section
open PySem PySem.W PyProof.Rows PySem.Calls
set_option Elab.async false
set_option linter.unusedVariables false
set_option maxRecDepth 100000
namespace Mine
open LCg (NsObj lst Off3 Off1 CompEnd FinE FinA)
section
variable {prog : Program} {w : World} {A : PySem.Around} {E : Value → Shared → Prop} {s : Shared} {h₀ : Heap} {L : Addr} {m : Str → Option Value} {env : Env}
theorem compLoop_any {elt target iter : PySem.Expr} {ifs : List PySem.Expr} {scope : Scope} {pos : Pos} {it acc : Value} {cenv : Env} {R : Result → Shared → Prop} (I : Nat → Shared → Prop)
    (turn : ∀ n s, I n s → wpAny (model prog w) A (pyNext it) (fun r s₁ => match r with
      | none => R (.ok .next) s₁
      | some v => wpAny (model prog w) A (letOwnedTupleGo target it v) (fun _ s₁' => wpAny (model prog w) A (assign target cenv v) (fun _ s₂ =>
          wpAny (model prog w) A (forIn ifs true fun c r => if r = true then do let ok ← isTrue c cenv (eval c cenv); pure (ForInStep.yield ok) else pure (ForInStep.yield r)) (fun ok s₃ =>
            if ok = true then wpAny (model prog w) A (eval elt cenv) (fun x s₄ =>
              wpAny (model prog w) A (call (.builtin "list.append") [acc, x]) (fun _ s₅ => ∃ m, m < n ∧ I m s₅) (notedBy (model prog w) A cenv fun e s' => R (.error e) s') s₄) (notedBy (model prog w) A cenv fun e s' => R (.error e) s') s₃
            else ∃ m, m < n ∧ I m s₃) (notedBy (model prog w) A cenv fun e s' => R (.error e) s') s₂) (notedBy (model prog w) A cenv fun e s' => R (.error e) s') s₁')
          (notedBy (model prog w) A cenv fun e s' => R (.error e) s') s₁) (notedBy (model prog w) A cenv fun e s' => R (.error e) s') s)
    (n : Nat) (h : I n s) : codeAny (model prog w) A (.compLoop (.ListComp elt [⟨target, iter, ifs, 0⟩] scope pos) 0 it acc cenv) R s := by
  refine codeAny_loop rfl I (fun n s hI => ?_) n h
  show wpAny _ A ((compTurn (.ListComp elt [⟨target, iter, ifs, 0⟩] scope pos) 0 it acc cenv).onRaise (fun x => do noteFrame x cenv; theTreesLotGoes x)) _ _ s
  refine wpAny_noted ?_
  rw [compTurn_list]
  refine wpAny_bind (wpAny_standAt (wpAny_bind (wpAny_mono (turn n s hI) (fun r s₁ h₁ => ?_) fun _ _ h' => h')))
  cases r with
  | none => exact wpAny_pure h₁
  | some v =>
    refine wpAny_bind (wpAny_mono h₁ (fun _ s₁' h₁' => ?_) fun _ _ h' => h')
    refine wpAny_bind (wpAny_mono h₁' (fun _ s₂ h₂ => wpAny_bind (wpAny_mono h₂ (fun ok s₃ h₃ => ?_) fun _ _ h' => h')) fun _ _ h' => h')
    cases ok with
    | false => exact wpAny_pure ⟨rfl, h₃⟩
    | true => exact wpAny_bind (wpAny_bind (wpAny_mono h₃ (fun x s₄ h₄ => wpAny_bind (wpAny_mono h₄ (fun _ s₅ h₅ => wpAny_pure (wpAny_pure ⟨rfl, h₅⟩)) fun _ _ h' => h')) fun _ _ h' => h'))

/-- the source: what is drawn, one by one -/
structure Src (prog : Program) (w : World) (A : PySem.Around) (h₀ : Heap) (target : PySem.Expr) (xv : Value) (s : Shared) (n : Nat) (P : Nat → Value → Prop) (S : List (Addr × Obj) → Prop) : Prop where
  iter : ∀ (Q : Value → Shared → Prop) (E : Value → Shared → Prop), (∀ (oI : Obj) (St : Nat → Heap → Prop) fp, Walks prog w A s.heap.objs.size fp [s.heap.objs.size] n P St → (∀ b ∈ fp, b < s.heap.objs.size + 1) → St 0 (s.heap.push oI) → (∀ i h, St i h → ∃ o, h.get? s.heap.objs.size = some o) →
      (∀ L i h h' o nw, St i h → h.get? s.heap.objs.size = some o → h'.get? s.heap.objs.size = some o → (∀ b o, h₀.get? b = some o → h'.get? b = some o) → News h₀ L h' nw → S nw → St i h') →
      (∀ i v h tk (Q : Unit → Shared → Prop) (E : Value → Shared → Prop), St i h → Q () { s with heap := h, toks := tk } → wpAny (model prog w) A (letOwnedTupleGo target (.ref s.heap.objs.size) v) Q E { s with heap := h, toks := tk }) →
      Q (.ref s.heap.objs.size) { s with heap := s.heap.push oI }) → wpAny (model prog w) A (pyIter xv) Q E s

theorem Src.list {target : PySem.Expr} {ax : Addr} {vs : List Value} (hh : A.handled = none) (hl : s.heap.IsList ax vs.toArray) : Src prog w A h₀ target (.ref ax) s vs.length (fun i v => vs[i]? = some v) (fun nx => LCg.SrcAt h₀ ax vs.toArray nx) := by
  have hlt : ax < s.heap.objs.size := by obtain ⟨_, e, _⟩ := hl; exact Heap.lt_size e
  refine ⟨fun Q E k => wpAny_pyIter_list hl ?_⟩
  have W := Walks.list (prog := prog) (w := w) hh s.heap.objs.size ax (Nat.ne_of_lt hlt) vs.toArray
  rw [List.size_toArray] at W
  refine k _ _ _ { W with item := fun i s Q E hi st hQ => W.item i s Q E hi st fun v h' tk hP => hQ v h' tk (by simpa using hP) } (fun b hb => ?_) ⟨⟨_, Heap.get?_push_size _ rfl, rfl, rfl⟩, hl.push _⟩ (fun i h st => by obtain ⟨o, e, _⟩ := st.1; exact ⟨o, e⟩) (fun L => LCg.list_st (L := L)) fun i v h tk Q E st hQ => let_listiter st.1 hQ
  rcases List.mem_cons.mp hb with rfl | hb
  · exact Nat.lt_succ_self _
  · rw [List.mem_singleton.mp hb]; exact Nat.lt_succ_of_lt hlt

theorem Src.range {x : Str} {px : Pos} {r : Addr} {n : Nat} {b₀ : Int} {t₀ u₀ v₀ : Tok} (hh : A.handled = none) (hr : IsRange s.heap r 0 b₀ 1 t₀ u₀ v₀) (hb : b₀ = (n : Int)) (hnz : n ≤ 100000) :
    Src prog w A h₀ (.Name x px) (.ref r) s n (fun i v => ∃ t, v = .int (i : Int) t) (fun _ => True) := by
  subst hb
  obtain ⟨hsmall, hn⟩ := range_nat hnz
  refine ⟨fun Q E k => wpAny_pyIter_range hr hsmall ?_⟩
  have W := LCg.range_walks (prog := prog) (w := w) (A := A) (I := s.heap.objs.size) hh 0 n
  refine k _ _ _ { W with item := fun i s Q E hi st hQ => W.item i s Q E hi st fun v h' tk hP => hQ v h' tk (by obtain ⟨t, rfl⟩ := hP; exact ⟨t, by rw [Int.zero_add]⟩) } (fun b hb => ?_) (by show IsRangeIter _ _ _ _ _; rw [hn]; simpa using Heap.get?_push_size _ rfl) (fun i h st => ⟨_, st⟩) (fun L => LCg.range_st (L := L)) fun i v h tk Q E st hQ => by
    show wpAny _ _ (pure ()) _ _ _; exact wpAny_pure hQ
  rw [List.mem_singleton.mp hb]; exact Nat.lt_succ_self _

/-- a turn: the test, if there is one, and the element -/
noncomputable def CTurn (prog : Program) (w : World) (A : PySem.Around) (h₀ : Heap) (L : Addr) (m : Str → Option Value) (cenv : Addr → Env) (elt : PySem.Expr) (ifs : List PySem.Expr) (s : Shared) (n : Nat) (P : Nat → Value → Prop) (B : Nat → Value → (Str → Option Value) → Prop) (J : Nat → List Value → List (Addr × Obj) → Prop) : Prop :=
  ∀ i v ys nx I oI C oC D m₂ h tk (E' : Value → Shared → Prop), i < n → P i v → J i ys nx → B i v m₂ → NsObj oC m₂ → Fr h₀ L h m → News h₀ L h ((I, oI) :: (C, oC) :: (D, lst ys) :: nx) → Off3 I C D nx → ((@Ne Nat I C) ∧ (@Ne Nat I D) ∧ (@Ne Nat C D)) →
    wpAny (model prog w) A (forIn ifs true fun c r => if r = true then do let ok ← isTrue c (cenv C) (eval c (cenv C)); pure (ForInStep.yield ok) else pure (ForInStep.yield r)) (fun ok s₃ =>
      if ok = true then wpAny (model prog w) A (eval elt (cenv C)) (CompEnd h₀ L m { s with heap := h, toks := tk } I oI C oC D (lst ys) (fun _ => True) (fun y nx' => J (i + 1) (ys ++ [y]) nx')) E' s₃
      else CompEnd h₀ L m { s with heap := h, toks := tk } I oI C oC D (lst ys) (fun _ => True) (fun _ nx' => J (i + 1) ys nx') .none s₃) E' { s with heap := h, toks := tk }

theorem block_J {elt iter target : PySem.Expr} {ifs : List PySem.Expr} {scope : Scope} {cl : List (Str × Addr)} {pos : Pos} {s₂ : Shared} {I : Addr} {fp : List Addr} {n : Nat} {P : Nat → Value → Prop} {St : Nat → Heap → Prop} {S : List (Addr × Obj) → Prop} {B : Nat → Value → (Str → Option Value) → Prop} {J : Nat → List Value → List (Addr × Obj) → Prop} {news : List (Addr × Obj)}
    {RR : Value → Addr → Result → Shared → Prop}
    (W : Walks prog w A I fp [I] n P St) (hsz : n ≤ sizeLine) (hIo : ∀ i h, St i h → ∃ o, h.get? I = some o)
    (hSt : ∀ i h h' o nw, St i h → h.get? I = some o → h'.get? I = some o → (∀ b o, h₀.get? b = some o → h'.get? b = some o) → News h₀ L h' nw → S nw → St i h')
    (hlet : ∀ i v h tk (Q : Unit → Shared → Prop) (E : Value → Shared → Prop), St i h → Q () { s₂ with heap := h, toks := tk } → wpAny (model prog w) A (letOwnedTupleGo target (.ref I) v) Q E { s₂ with heap := h, toks := tk })
    (hS : ∀ i ys nx, J i ys nx → S nx)
    (hcell : ∀ y ∈ scope.names, y.2 ≠ .cell) (hkind : scope.kind = .function) (hst : St 0 s₂.heap) (hfp : ∀ b ∈ fp, b < s₂.heap.objs.size)
    (F : Fr h₀ L s₂.heap m) (N : News h₀ L s₂.heap news) (hIL : L ≠ I) (hI₀ : h₀.get? I = none) (off : ∀ p ∈ news, p.1 ≠ I) (hj : J 0 [] news)
    (hasg : ∀ i v ys nx h tk C m₁ (Q' : Unit → Shared → Prop) (E' : Value → Shared → Prop), i < n → P i v → J i ys nx → Fr h₀ L h m → News h₀ L h nx → h.Ns C m₁ → C ≠ L → h₀.get? C = none → (∀ p ∈ nx, p.1 ≠ C) →
      (∀ h' tk' m₂, B i v m₂ → h'.Ns C m₂ → (∀ b o, b ≠ C → h.get? b = some o → h'.get? b = some o) → Q' () { s₂ with heap := h', toks := tk' }) → wpAny (model prog w) A (assign target (compEnvC scope cl C env) v) Q' E' { s₂ with heap := h, toks := tk })
    (turn : CTurn prog w A h₀ L m (fun C => compEnvC scope cl C env) elt ifs s₂ n P B J)
    (hRR : ∀ D C h tk m' ys nx, Fr h₀ L h m → News h₀ L h ((D, lst ys) :: nx) → Off1 D nx → h.Ns C m' → h₀.get? C = none → h₀.get? D = none → C ≠ L → D ≠ L → C ≠ D → (∀ p ∈ nx, p.1 ≠ C) → J n ys nx → RR (.ref D) C (.ok .next) { s₂ with heap := h, toks := tk }) :
    wpAny (model prog w) A (newList []) (fun acc s₃ => wpAny (model prog w) A (newFunctionEnv scope env.globals cl [] env.qual none .none (some env)) (fun cenv s₄ =>
      codeAny (model prog w) A (.compStart (.ListComp elt [⟨target, iter, ifs, 0⟩] scope pos) 0 (.ref I) acc { cenv with scope := relabel scope env }) (RR acc cenv.locals) s₄) E s₃) E s₂ := by
  refine wpAny_newObj_type (wpAny_newFunctionEnv hcell (by intro y hy; simp at hy) (fun h₁ hns₁ hsb₁ => ?_) hkind)
  dsimp only at hns₁ hsb₁ ⊢
  generalize hH2 : s₂.heap.push { cls := .type "list", dict := none, data := .seq ([] : List Value).toArray } = H2 at hns₁ hsb₁ ⊢
  generalize hDD : s₂.heap.objs.size = D at *
  generalize hCC : H2.objs.size = C at *
  have hC : C = D + 1 := by rw [← hCC, ← hH2, Heap.size_push, hDD]
  have hDC : D ≠ C := by rw [hC]; exact Nat.ne_of_lt (Nat.lt_succ_self _)
  have below : ∀ b, b < D → b ≠ C ∧ b ≠ D := fun b hb => ⟨by rw [hC]; exact Nat.ne_of_lt (Nat.lt_succ_of_lt hb), Nat.ne_of_lt hb⟩
  have lt_D : ∀ {b o}, s₂.heap.get? b = some o → b < D := fun e => hDD ▸ Heap.lt_size e
  have hDf : D ∉ fp := fun hm => Nat.lt_irrefl _ (hfp _ hm)
  have hCf : C ∉ fp := fun hm => by have := hfp _ hm; rw [hC] at this; exact Nat.lt_irrefl _ (Nat.lt_of_succ_lt this)
  have hIf : I ∈ fp := W.sub I (List.mem_singleton.mpr rfl)
  have hIlt : I < D := hfp I hIf
  have old : ∀ b o, s₂.heap.get? b = some o → h₁.get? b = some o := fun b o e => hsb₁.extBut b o (below b (lt_D e)).1 (Heap.get?_push_of_some _ (hH2 ▸ Heap.get?_push_of_some _ e))
  have hacc : h₁.get? D = some (lst []) := hsb₁.extBut _ _ hDC (Heap.get?_push_of_some _ (hH2 ▸ hDD ▸ Heap.get?_push_size _ rfl))
  have hst₁ : St 0 h₁ := W.frame _ _ _ hst fun b _ o e => old b o e
  have fresh₀ : ∀ a, D ≤ a → h₀.get? a = none := fun a ha => by
    cases e : h₀.get? a with
    | none => rfl
    | some o' => exact absurd (lt_D (F.keep a o' e)) (Nat.not_lt.mpr ha)
  have hD₀ : h₀.get? D = none := fresh₀ _ (Nat.le_refl _)
  have hC₀ : h₀.get? C = none := fresh₀ _ (by rw [hC]; exact Nat.le_succ _)
  have hLlt : L < D := hDD ▸ F.ns.lt
  have hDL : D ≠ L := Ne.symm (below L hLlt).2
  have hCL : C ≠ L := Ne.symm (below L hLlt).1
  have hCI : I ≠ C := (below I hIlt).1
  have hDI : I ≠ D := (below I hIlt).2
  have off₀ : Off3 I C D news := Off3.of fun p hp => ⟨off p hp, (below _ (lt_D (N p hp).1)).1, (below _ (lt_D (N p hp).1)).2⟩
  have loop : ∀ s₃ : Shared, s₃ = { s₂ with heap := h₁, toks := s₂.toks + ([] : List (Str × Value)).length } →
      codeAny (model prog w) A (.compLoop (.ListComp elt [⟨target, iter, ifs, 0⟩] scope pos) 0 (.ref I) (.ref D) (compEnvC scope cl C env)) (RR (.ref D) C) s₃ := by
    rintro s₃ rfl
    refine compLoop_any
      (fun k s' => ∃ h' tk i ys m' nx, s' = { s₂ with heap := h', toks := tk } ∧ i ≤ n ∧ k = n + 1 - i ∧ ys.length ≤ i ∧ St i h' ∧ Fr h₀ L h' m ∧ h'.Ns C m' ∧ News h₀ L h' ((D, lst ys) :: nx) ∧ Off3 I C D nx ∧ J i ys nx) ?_ (n + 1)
      ⟨h₁, _, 0, [], _, news, rfl, Nat.zero_le _, rfl, Nat.le_refl _, hst₁, F.keeps old, hns₁, fun p hp => ?_, off₀, hj⟩
    · rintro k s' ⟨h', tk, i, ys, m', nx, rfl, hi, rfl, hyl, hst', F', hn', N', off', hJ⟩
      have off3 := off'.mem
      by_cases hlt : i < n
      · refine W.item i _ _ _ hlt hst' fun v h₂ tk₂ hPv hst₂ hk₂ => ?_
        refine hlet _ _ _ _ _ _ hst₂ ?_
        have F₂ : Fr h₀ L h₂ m := LCg.fr_but F' hk₂ hIL hI₀
        have N₂ : News h₀ L h₂ ((D, lst ys) :: nx) := LCg.news_but N' hk₂ fun p hp => by
          rcases List.mem_cons.mp hp with rfl | hp
          · exact Ne.symm hDI
          · exact (off3 p hp).1
        have N₂' : News h₀ L h₂ nx := fun p hp => N₂ p (.tail _ hp)
        refine hasg i v ys nx h₂ tk₂ C m' _ _ hlt hPv hJ F₂ N₂' (hn'.at' fun o e => hk₂ _ o (by simpa using Ne.symm hCI) e) hCL hC₀ (fun p hp => (off3 p hp).2.1) fun h₃ tk₃ m₂ hB hn₃ hk₃ => ?_
        have hst₃ : St (i + 1) h₃ := W.frame _ _ _ hst₂ fun b hb o e => hk₃ b o (fun q => hCf (q ▸ hb)) e
        obtain ⟨oI, heI⟩ := hIo _ _ hst₃
        obtain ⟨oC, heC, hoC⟩ := LCg.ns_obj hn₃
        have F₃ : Fr h₀ L h₃ m := ⟨F₂.ns.at' fun o e => hk₃ _ o (Ne.symm hCL) e, fun b o e => hk₃ b o (fun q => by rw [q, hC₀] at e; cases e) (F₂.keep b o e), F₂.above⟩
        have N₃ : News h₀ L h₃ ((I, oI) :: (C, oC) :: (D, lst ys) :: nx) := fun p hp => by
          rcases List.mem_cons.mp hp with rfl | hp
          · exact ⟨heI, Ne.symm hIL, hI₀⟩
          · rcases List.mem_cons.mp hp with rfl | hp
            · exact ⟨heC, hCL, hC₀⟩
            · have z := N₂ p hp
              refine ⟨hk₃ _ _ ?_ z.1, z.2⟩
              rcases List.mem_cons.mp hp with rfl | hp
              · exact hDC
              · exact (off3 p hp).2.1
        refine wpAny_mono (turn i v ys nx I oI C oC D m₂ h₃ tk₃ _ hlt hPv hJ hB hoC F₃ N₃ off' ⟨hCI, hDI, Ne.symm hDC⟩) (fun ok s₄ h₄ => ?_) fun _ _ e => e
        cases ok with
        | true =>
          simp only [if_true] at h₄ ⊢
          refine wpAny_mono h₄ (fun y s₅ h₅ => ?_) fun _ _ e => e
          obtain ⟨h₄, tk₄, nx₄, rfl, F₄, N₄, off₄, _, J₄⟩ := h₅
          have zI := (N₄ (I, oI) List.mem_cons_self).1
          have zC := (N₄ (C, oC) (List.mem_cons_of_mem _ List.mem_cons_self)).1
          have zD := (N₄ (D, lst ys) (List.mem_cons_of_mem _ (List.mem_cons_of_mem _ List.mem_cons_self))).1
          have N₄' : News h₀ L h₄ nx₄ := fun p hp => N₄ p (List.mem_cons_of_mem _ (List.mem_cons_of_mem _ (List.mem_cons_of_mem _ hp)))
          have hst₄ : St (i + 1) h₄ := hSt _ _ _ _ _ hst₃ heI zI F₄.keep N₄' (hS _ _ _ J₄)
          refine append_at (hsz := by show ys.toArray.size ≤ sizeLine; rw [List.size_toArray]; exact Nat.le_trans (Nat.le_trans hyl hi) hsz) zD fun h₅ hs₅ hD₅ => ?_
          have off4 := off₄.mem
          refine ⟨n + 1 - (i + 1), by omega, h₅, tk₄, i + 1, ys ++ [y], _, nx₄, rfl, hlt, rfl, by rw [List.length_append, List.length_singleton]; exact Nat.succ_le_succ hyl, W.frame _ _ _ hst₄ fun b hb o e => hs₅.extBut b o (fun q => hDf (q ▸ hb)) e, F₄.change hs₅ hDL hD₀,
            (hoC.ns zC).sameBut hs₅ (Ne.symm hDC), fun p hp => ?_, off₄, J₄⟩
          rcases List.mem_cons.mp hp with rfl | hp
          · exact ⟨hD₅.trans (congrArg some (LCg.lst_snoc ys y)), hDL, hD₀⟩
          · exact ⟨hs₅.extBut _ _ (off4 p hp).2.2 (N₄' p hp).1, (N₄' p hp).2⟩
        | false =>
          simp only [Bool.false_eq_true, if_false] at h₄ ⊢
          obtain ⟨h₅, tk₄, nx₄, rfl, F₄, N₄, off₄, _, J₄⟩ := h₄
          have zI := (N₄ (I, oI) List.mem_cons_self).1
          have zC := (N₄ (C, oC) (List.mem_cons_of_mem _ List.mem_cons_self)).1
          have N₄' : News h₀ L h₅ nx₄ := fun p hp => N₄ p (List.mem_cons_of_mem _ (List.mem_cons_of_mem _ (List.mem_cons_of_mem _ hp)))
          have hst₄ : St (i + 1) h₅ := hSt _ _ _ _ _ hst₃ heI zI F₄.keep N₄' (hS _ _ _ J₄)
          refine ⟨n + 1 - (i + 1), by omega, h₅, tk₄, i + 1, ys, _, nx₄, rfl, hlt, rfl, Nat.le_succ_of_le hyl, hst₄, F₄, hoC.ns zC, fun p hp => ?_, off₄, J₄⟩
          rcases List.mem_cons.mp hp with rfl | hp
          · exact N₄ _ (List.mem_cons_of_mem _ (List.mem_cons_of_mem _ List.mem_cons_self))
          · exact N₄' p hp
      · obtain rfl : i = n := Nat.le_antisymm hi (Nat.not_lt.mp hlt)
        refine W.done _ _ _ hst' fun h₂ tk₂ hk₂ => ?_
        exact hRR _ _ h₂ tk₂ _ ys nx (LCg.fr_but F' hk₂ hIL hI₀) (LCg.news_but N' hk₂ fun p hp => by
          rcases List.mem_cons.mp hp with rfl | hp
          · exact Ne.symm hDI
          · exact (off3 p hp).1) off'.one (hn'.at' fun o e => hk₂ _ o (by simpa using Ne.symm hCI) e) hC₀ hD₀ hCL hDL (Ne.symm hDC) (fun p hp => (off3 p hp).2.1) hJ
    · rcases List.mem_cons.mp hp with rfl | hp
      · exact ⟨hacc, hDL, hD₀⟩
      · exact ⟨old _ _ (N p hp).1, (N p hp).2⟩
  exact codeAny_compStart_list (loop _ rfl) (W.self 0 _ _ _ hst₁ (loop _ rfl))
end
end Mine
end
section
open PySem PySem.W PyProof.Rows PySem.Calls
set_option Elab.async false
set_option linter.unusedVariables false
set_option maxRecDepth 100000
namespace Mine
open LCg (NsObj lst Off3 Off1 CompEnd FinE FinA)
section
variable {prog : Program} {w : World} {A : PySem.Around} {E : Value → Shared → Prop} {s : Shared} {h₀ : Heap} {L : Addr} {m : Str → Option Value} {env : Env}
noncomputable def Asg (prog : Program) (w : World) (A : PySem.Around) (h₀ : Heap) (L : Addr) (m : Str → Option Value) (target : PySem.Expr) (cenv : Addr → Env) (s₂ : Shared) (n : Nat) (P : Nat → Value → Prop) (B : Nat → Value → (Str → Option Value) → Prop) (J : Nat → List Value → List (Addr × Obj) → Prop) : Prop :=
  ∀ i v ys nx h tk C m₁ (Q' : Unit → Shared → Prop) (E' : Value → Shared → Prop), i < n → P i v → J i ys nx → Fr h₀ L h m → News h₀ L h nx → h.Ns C m₁ → C ≠ L → h₀.get? C = none → (∀ p ∈ nx, p.1 ≠ C) →
      (∀ h' tk' m₂, B i v m₂ → h'.Ns C m₂ → (∀ b o, b ≠ C → h.get? b = some o → h'.get? b = some o) → Q' () { s₂ with heap := h', toks := tk' }) → wpAny (model prog w) A (assign target (cenv C) v) Q' E' { s₂ with heap := h, toks := tk }
noncomputable def CSrc (prog : Program) (w : World) (A : PySem.Around) (h₀ : Heap) (L : Addr) (m : Str → Option Value) (env : Env) (elt target : PySem.Expr) (ifs : List PySem.Expr) (scope : Scope) (cl : List (Str × Addr)) (Fin : Shared → List Value → List (Addr × Obj) → Prop) (xv : Value) (s₁ : Shared) : Prop :=
  ∃ n P S B J news, Src prog w A h₀ target xv s₁ n P S ∧ n ≤ sizeLine ∧ Fr h₀ L s₁.heap m ∧ News h₀ L s₁.heap news ∧ (∀ i ys nx, J i ys nx → S nx) ∧ J 0 [] news ∧
    ∀ s₂ : Shared, (∃ h, s₂ = { s₁ with heap := h }) → Asg prog w A h₀ L m target (fun C => compEnvC scope cl C env) s₂ n P B J ∧ CTurn prog w A h₀ L m (fun C => compEnvC scope cl C env) elt ifs s₂ n P B J ∧ (∀ ys nx, J n ys nx → Fin s₂ ys nx)

theorem comp_E {elt iter target : PySem.Expr} {ifs : List PySem.Expr} {scope : Scope} {cl : List (Str × Addr)} {pos : Pos} {Q : Value → Shared → Prop} (F₀ : Fr h₀ L s.heap m)
    (hclos : closureFor scope env = pure cl) (hcell : ∀ y ∈ scope.names, y.2 ≠ .cell) (hkind : scope.kind = .function)
    (hnames : ∀ y ∈ scope.names, y.2 = .local → scope.names.lookup y.1 = some .local)
    (h : wpAny (model prog w) A (eval iter env) (CSrc prog w A h₀ L m env elt target ifs scope cl (fun s₂ => FinE h₀ L m s₂ Q)) E s)
    (hs : ∀ x, foldedSetIterable iter env x = pure x := by intro _; rfl) :
    wpAny (model prog w) A (eval (.ListComp elt [⟨target, iter, ifs, 0⟩] scope pos) env) Q E s := by
  rw [eval_ListComp]
  refine wpAny_comprehension_free (use := none) rfl hs hclos hkind hnames (wpAny_mono h (fun xv s₁ h₁ => ?_) fun _ _ e => e)
  obtain ⟨n, P, S, B, J, news, src, hsz, F, N, hS, hj, k⟩ := h₁
  refine src.iter _ _ fun oI St fp W hfp hst hIo hSt hlet => ?_
  obtain ⟨asg, turn, fin⟩ := k { s₁ with heap := s₁.heap.push oI } ⟨_, rfl⟩
  refine block_J W hsz hIo (hSt L) (fun i v h tk Q E st hQ => hlet i v h tk Q E st hQ) hS hcell hkind hst (fun b hb => ?_) (F.push _) (fun p hp => ⟨Heap.get?_push_of_some _ (N p hp).1, (N p hp).2⟩) (Nat.ne_of_lt F.ns.lt) (next_is_new F) (fun p hp => Nat.ne_of_lt (Heap.lt_size (N p hp).1)) hj asg turn ?_
  · have := hfp b hb
    show b < (s₁.heap.push _).objs.size
    rw [Heap.size_push]; exact this
  · intro D C h tk m' ys nx F' N' o1 hn hC₀ hD₀ hCL hDL hCD offC hJ
    have fin' := fin ys nx hJ
    refine ⟨m', hn, fun h'' hs'' => fin' D h'' tk (F'.change hs'' hCL hC₀) (fun p hp => ?_) o1⟩
    refine ⟨hs''.extBut _ _ ?_ (N' p hp).1, (N' p hp).2⟩
    rcases List.mem_cons.mp hp with rfl | hp
    · exact Ne.symm hCD
    · exact offC p hp

theorem comp_A {elt iter target : PySem.Expr} {ifs : List PySem.Expr} {y : Str} {py : Pos} {scope : Scope} {cl : List (Str × Addr)} {pos spos : Pos} {Q : Flow → Shared → Prop} (F₀ : Fr h₀ L s.heap m) (hLe : env.locals = L)
    (hsw : swapsWith (.ListComp elt [⟨target, iter, ifs, 0⟩] scope pos) (some (.Name y py)) spos.line env = pure true)
    (hclos : closureFor scope env = pure cl) (hcell : ∀ z ∈ scope.names, z.2 ≠ .cell) (hkind : scope.kind = .function)
    (hnames : ∀ z ∈ scope.names, z.2 = .local → scope.names.lookup z.1 = some .local)
    (hy : env.kindOf y = some .local) (hp : (env.scope.kind == .class || (env.scope.kind == .module && env.locals != env.globals)) = false)
    (h : wpAny (model prog w) A (eval iter env) (CSrc prog w A h₀ L m env elt target ifs scope cl (fun s₂ => FinA h₀ L m s₂ y Q)) E s)
    (hs : ∀ x, foldedSetIterable iter env x = pure x := by intro _; rfl) :
    wpAny (model prog w) A (exec (.Assign [.Name y py] (.ListComp elt [⟨target, iter, ifs, 0⟩] scope pos) spos) env) Q E s := by
  subst hLe
  rw [exec_Assign_Name_used _ _ _ _ hsw]
  refine wpAny_bind (wpAny_standAt (wpAny_bind ?_))
  show wpAny _ A (do let _ ← comprehension (.ListComp elt [⟨target, iter, ifs, 0⟩] scope pos) scope env _ (newList []) false (eval iter env) (some (assign (.Name y py) env))) _ _ s
  refine wpAny_bind (wpAny_mono (wpAny_comprehension_free (use := some (assign (.Name y py) env)) (Q := fun _ s' => Q .next s') rfl hs hclos hkind hnames
    (wpAny_mono h (fun xv s₁ h₁ => ?_) fun _ _ e => e)) (fun _ s' hq => wpAny_pure (wpAny_pure hq)) fun _ _ e => e)
  obtain ⟨n, P, S, B, J, news, src, hsz, F, N, hS, hj, k⟩ := h₁
  refine src.iter _ _ fun oI St fp W hfp hst hIo hSt hlet => ?_
  obtain ⟨asg, turn, fin⟩ := k { s₁ with heap := s₁.heap.push oI } ⟨_, rfl⟩
  refine block_J W hsz hIo (hSt env.locals) (fun i v h tk Q E st hQ => hlet i v h tk Q E st hQ) hS hcell hkind hst (fun b hb => ?_) (F.push _) (fun p hp => ⟨Heap.get?_push_of_some _ (N p hp).1, (N p hp).2⟩) (Nat.ne_of_lt F.ns.lt) (next_is_new F) (fun p hp => Nat.ne_of_lt (Heap.lt_size (N p hp).1)) hj asg turn ?_
  · have := hfp b hb
    show b < (s₁.heap.push _).objs.size
    rw [Heap.size_push]; exact this
  · intro D C h' tk m' ys nx F' N' o1 hn hC₀ hD₀ hCL hDL hCD offC hJ
    have fin' := fin ys nx hJ
    show wpAny _ A (assign (.Name y py) env (.ref D)) _ _ _
    refine wpAny_assign_Name (wpAny_storeName_local hy F'.ns (fun h₂ hn₂ hs₂ => ?_) hp)
    have hL₀ : h₀.get? env.locals = none := Heap.get?_none_of_le F'.above
    have F₂ : Fr h₀ env.locals h₂ (fun z => if z = y then some (.ref D) else m z) := ⟨hn₂, fun b o e => hs₂.extBut b o (fun q => by rw [q, hL₀] at e; cases e) (F'.keep b o e), F'.above⟩
    refine ⟨m', hn.sameBut hs₂ hCL, fun h'' hs'' => fin' D h'' _ (F₂.change hs'' hCL hC₀) (fun p hp => ?_) o1⟩
    have z : h₂.get? p.1 = some p.2 := hs₂.extBut _ _ (N' p hp).2.1 (N' p hp).1
    refine ⟨hs''.extBut _ _ ?_ z, (N' p hp).2⟩
    rcases List.mem_cons.mp hp with rfl | hp
    · exact Ne.symm hCD
    · exact offC p hp

section
variable {elt : PySem.Expr} {ifs : List PySem.Expr} {scope : Scope} {cl : List (Str × Addr)} {Fin : Shared → List Value → List (Addr × Obj) → Prop} {xv : Value} {s₁ : Shared} {n : Nat} {P : Nat → Value → Prop} {S : List (Addr × Obj) → Prop} {J : Nat → List Value → List (Addr × Obj) → Prop} {news : List (Addr × Obj)}
theorem CSrc.name {x : Str} {px : Pos} (src : Src prog w A h₀ (.Name x px) xv s₁ n P S) (hsz : n ≤ sizeLine) (F : Fr h₀ L s₁.heap m) (N : News h₀ L s₁.heap news) (hS : ∀ i ys nx, J i ys nx → S nx) (hj : J 0 [] news)
    (turn : ∀ g, CTurn prog w A h₀ L m (fun C => compEnvC scope cl C env) elt ifs { s₁ with heap := g } n P (fun i v m₂ => m₂ x = some v) J) (fin : ∀ g ys nx, J n ys nx → Fin { s₁ with heap := g } ys nx)
    (hkind : scope.kind = .function := by rfl) (hx : scope.names.lookup x = some .local := by rfl) : CSrc prog w A h₀ L m env elt (.Name x px) ifs scope cl Fin xv s₁ := by
  refine ⟨n, P, S, (fun i v m₂ => m₂ x = some v), J, news, src, hsz, F, N, hS, hj, ?_⟩
  rintro _ ⟨g, rfl⟩
  refine ⟨?_, turn g, fin g⟩
  intro i v ys nx h tk C m₁ Q' E' hi hP hJ F' N' hn hCL hC₀ hCn k
  refine wpAny_assign_Name (wpAny_storeName_local (lookup_relabel_local hx) hn (fun h₃ hn₃ hs₃ => ?_) (by simp [compEnvC, relabel, hkind]))
  exact k h₃ _ _ (by simp) hn₃ fun b o hb e => hs₃.extBut b o hb e
theorem CSrc.pair {x x₂ : Str} {px px₂ tp : Pos} {tk₀} (Bp : Nat → Value → Value → Prop) (src : Src prog w A h₀ (.Tuple [.Name x px, .Name x₂ px₂] tk₀ tp) xv s₁ n P S) (hsz : n ≤ sizeLine) (hh : A.handled = none) (F : Fr h₀ L s₁.heap m) (N : News h₀ L s₁.heap news) (hS : ∀ i ys nx, J i ys nx → S nx) (hj : J 0 [] news)
    (hitem : ∀ i v ys nx h, i < n → P i v → J i ys nx → Fr h₀ L h m → News h₀ L h nx → ∃ a b e, v = .ref a ∧ (h.IsList a #[b, e] ∨ IsTup h a #[b, e]) ∧ Bp i b e)
    (turn : ∀ g, CTurn prog w A h₀ L m (fun C => compEnvC scope cl C env) elt ifs { s₁ with heap := g } n P (fun i v m₂ => ∃ b e, Bp i b e ∧ m₂ x = some b ∧ m₂ x₂ = some e) J) (fin : ∀ g ys nx, J n ys nx → Fin { s₁ with heap := g } ys nx)
    (hxx : x ≠ x₂ := by decide) (hkind : scope.kind = .function := by rfl) (hx : scope.names.lookup x = some .local := by rfl) (hx₂ : scope.names.lookup x₂ = some .local := by rfl) : CSrc prog w A h₀ L m env elt (.Tuple [.Name x px, .Name x₂ px₂] tk₀ tp) ifs scope cl Fin xv s₁ := by
  refine ⟨n, P, S, (fun i v m₂ => ∃ b e, Bp i b e ∧ m₂ x = some b ∧ m₂ x₂ = some e), J, news, src, hsz, F, N, hS, hj, ?_⟩
  rintro _ ⟨g, rfl⟩
  refine ⟨?_, turn g, fin g⟩
  intro i v ys nx h tk C m₁ Q' E' hi hP hJ F' N' hn hCL hC₀ hCn k
  obtain ⟨a, b, e, rfl, hab, hBp⟩ := hitem i v ys nx h hi hP hJ F' N'
  obtain ⟨oC, es, ep, hC, hCr⟩ := id hn
  have NC : News h₀ L h [(C, oC)] := fun p hp => by rw [List.mem_singleton.mp hp]; exact ⟨hC, hCL, hC₀⟩
  have store : ∀ h' : Heap, Heap.ExtBut h.objs.size h h' → wpAny (model prog w) A (assignInOrder ((assignEach [.Name x px, .Name x₂ px₂] (compEnvC scope cl C env)).map (·.2)) [b, e]) Q' E' { s₁ with heap := h', toks := tk } := by
    intro h' he
    have keep : ∀ b o, h.get? b = some o → h'.get? b = some o := fun b o q => he b o (Nat.ne_of_lt (Heap.lt_size q)) q
    refine assignInOrder_cons (wpAny_assign_Name (wpAny_storeName_local (lookup_relabel_local hx) (hn.at' fun o q => keep _ o q) (fun h₆ hn₆ hs₆ => ?_) (by simp [compEnvC, relabel, hkind])))
    refine assignInOrder_cons (wpAny_assign_Name (wpAny_storeName_local (lookup_relabel_local hx₂) hn₆ (fun h₃ hn₃ hs₃ => ?_) (by simp [compEnvC, relabel, hkind])))
    refine assignInOrder_nil ?_
    exact k h₃ _ _ ⟨b, e, hBp, by simp [hxx], by simp⟩ hn₃ fun b o hb q => hs₃.extBut b o hb (hs₆.extBut b o hb (keep b o q))
  rcases hab with hab | hab
  · show wpAny _ _ (assign (.Tuple _ _ _) _ _) _ _ _
    rw [assign_Tuple]
    refine wpAny_bind (wpAny_standAt ?_)
    unfold unpack
    refine wpAny_bind (wpAny_holding ?_)
    exact kun_itemsOf (items := #[b, e]) hh hab fun h' he => store h' he
  · exact assign_Tuple_tuple hh hab rfl rfl fun h' he => store h' he
end
section
variable {cenv : Addr → Env} {elt ct : PySem.Expr} {n : Nat} {P : Nat → Value → Prop} {B : Nat → Value → (Str → Option Value) → Prop} {J : Nat → List Value → List (Addr × Obj) → Prop}
theorem CTurn.none (h : ∀ i v ys nx I oI C oC D m₂ h tk (E' : Value → Shared → Prop), i < n → P i v → J i ys nx → B i v m₂ → NsObj oC m₂ → Fr h₀ L h m → News h₀ L h ((I, oI) :: (C, oC) :: (D, lst ys) :: nx) → Off3 I C D nx → ((@Ne Nat I C) ∧ (@Ne Nat I D) ∧ (@Ne Nat C D)) →
    wpAny (model prog w) A (eval elt (cenv C)) (CompEnd h₀ L m { s with heap := h, toks := tk } I oI C oC D (lst ys) (fun _ => True) (fun y nx' => J (i + 1) (ys ++ [y]) nx')) E' { s with heap := h, toks := tk }) :
    CTurn prog w A h₀ L m cenv elt [] s n P B J := by
  intro i v ys nx I oI C oC D m₂ g tk E' a1 a2 a3 a4 a5 a6 a7 a8 a9
  refine wpAny_tests_nil ?_
  simp only [if_true]
  exact h i v ys nx I oI C oC D m₂ g tk E' a1 a2 a3 a4 a5 a6 a7 a8 a9
theorem CTurn.one (h : ∀ i v ys nx I oI C oC D m₂ h tk (E' : Value → Shared → Prop), i < n → P i v → J i ys nx → B i v m₂ → NsObj oC m₂ → Fr h₀ L h m → News h₀ L h ((I, oI) :: (C, oC) :: (D, lst ys) :: nx) → Off3 I C D nx → ((@Ne Nat I C) ∧ (@Ne Nat I D) ∧ (@Ne Nat C D)) →
    wpAny (model prog w) A (isTrue ct (cenv C) (eval ct (cenv C))) (fun ok s₃ =>
      if ok = true then wpAny (model prog w) A (eval elt (cenv C)) (CompEnd h₀ L m { s with heap := h, toks := tk } I oI C oC D (lst ys) (fun _ => True) (fun y nx' => J (i + 1) (ys ++ [y]) nx')) E' s₃
      else CompEnd h₀ L m { s with heap := h, toks := tk } I oI C oC D (lst ys) (fun _ => True) (fun _ nx' => J (i + 1) ys nx') .none s₃) E' { s with heap := h, toks := tk }) :
    CTurn prog w A h₀ L m cenv elt [ct] s n P B J := by
  intro i v ys nx I oI C oC D m₂ g tk E' a1 a2 a3 a4 a5 a6 a7 a8 a9
  refine wpAny_tests_one ?_
  exact h i v ys nx I oI C oC D m₂ g tk E' a1 a2 a3 a4 a5 a6 a7 a8 a9
end
end
end Mine
end
section
open PySem PySem.W PyProof.Rows PySem.Calls
set_option Elab.async false
set_option linter.unusedVariables false
set_option maxRecDepth 100000
namespace Mine
section
variable {M : Model} {A : PySem.Around} {E : Value → Shared → Prop} {s : Shared} {env : Env}
theorem stmt_any {st rest} {Q : Flow → Shared → Prop} (h : wpAny M A (exec st env) (fun f s' => Nxt (match f with | .next => wpAny M A (execs rest env) Q E s' | f => Q f s')) E s) : wpAny M A (execs (st :: rest) env) Q E s :=
  wpAny_execs_cons (wpAny_mono h (fun f s' h' => by cases f <;> exact h') fun _ _ x => x)
theorem nxt_go {rest} {Q : Flow → Shared → Prop} (h : wpAny M A (execs rest env) Q E s) : Nxt (match Flow.next with | .next => wpAny M A (execs rest env) Q E s | f => Q f s) := h
theorem for_any {target iter body orelse pos} {Q : Flow → Shared → Prop}
    (h : wpAny M A (eval iter env) (fun x s₁ => Nxt (wpAny M A (pyIter x) (fun it s₂ =>
      codeAny M A (.forLoop target it body orelse env) (fun r s' => match r with | .ok f => Q f s' | .error e => cameBackBy M A env E e s') s₂) E s₁)) E s)
    (hs : ∀ x, foldedSetIterable iter env x = pure x := by intro _; rfl) : wpAny M A (exec (.For target iter body orelse pos) env) Q E s := wpAny_For h hs
theorem if_any {test body orelse pos} {Q : Flow → Shared → Prop}
    (h : wpAny M A (isTrue test env (eval test env)) (fun b s₂ => if b = true then Nxt (wpAny M A (execs body env) Q E s₂) else Nxt (wpAny M A (execs orelse env) Q E s₂)) E s) : wpAny M A (exec (.If test body orelse pos) env) Q E s :=
  wpAny_If (wpAny_mono h (fun b s₂ h₂ => by cases b <;> exact h₂) fun _ _ x => x)
end
noncomputable def WPost (I : Nat → Shared → Prop) (n : Nat) (R : Result → Shared → Prop) (f : Flow) (s₃ : Shared) : Prop :=
  match f with
  | .brk => R (.ok .next) s₃
  | .ret v => R (.ok (.ret v)) s₃
  | _ => ∃ m, m < n ∧ I m s₃
theorem while_any {prog : Program} {w : World} {A : PySem.Around} {s : Shared} {test : PySem.Expr} {body : List Stmt} {env : Env} {R : Result → Shared → Prop} (I : Nat → Shared → Prop)
    (turn : ∀ n s, I n s → wpAny (model prog w) A (isTrue test env (eval test env)) (fun b s₂ => if b = true then Nxt (wpAny (model prog w) A (execs body env) (WPost I n R) NoE s₂) else Nxt (R (.ok .next) s₂)) NoE s)
    (n : Nat) (h : I n s) : codeAny (model prog w) A (.whileLoop test body [] env) R s := by
  refine codeAny_whileLoop I (fun n s hI => wpAny_mono (turn n s hI) (fun b s₂ h₂ => ?_) fun _ _ x => x.elim) n h
  cases b with
  | false => exact wpAny_execs_nil h₂
  | true =>
    refine wpAny_mono (show wpAny _ _ _ _ _ _ from h₂) (fun f s₃ h₃ => ?_) fun _ _ x => x.elim
    cases f <;> exact h₃
end Mine
end
section
open PySem PySem.W PyProof.Rows PySem.Calls
set_option Elab.async false
set_option linter.unusedVariables false
set_option maxRecDepth 100000
namespace Mine
section
variable {M : Model} {A : PySem.Around} {E : Value → Shared → Prop} {s : Shared} {env : Env}
end
end Mine
end
section
open PySem PySem.W PyProof.Rows PySem.Calls
set_option Elab.async false
set_option linter.unusedVariables false
set_option maxRecDepth 100000
namespace Mine
theorem idx0 {p : Str} {c : Nat} (hc : p.cps[0]? = some c) : (seqIndex? 0 p.length).bind (p.cps[·]?) = some c := by
  have h : 0 < p.length := (Array.getElem?_eq_some_iff.mp hc).1
  have e : seqIndex? 0 p.length = some 0 := by simp [seqIndex?, h]
  rw [e]; exact hc
noncomputable def figOf (p : Str) : Bool := !(Builtin.Str.occurrences (Str.ofString "0123456789") ⟨#[p.cps.getD 0 0]⟩ 0 (Str.ofString "0123456789").length 1).isEmpty
noncomputable def gaps : List Str := [Str.ofString "", Str.ofString ".", Str.ofString "-", Str.ofString "_", Str.ofString "+"]
noncomputable def partAt (ps : List Str) (k : Nat) : Str := ps.getD k Str.empty
noncomputable def gapAt (ps : List Str) (st k : Nat) : Str :=
  if gaps.getD ((st + k) % 5) Str.empty = Str.ofString "" ∧ figOf (partAt ps k) = figOf (partAt ps (k - 1)) then Str.ofString "." else gaps.getD ((st + k) % 5) Str.empty
noncomputable def zerosAt (st k : Nat) : Str := Txt.mul (Str.ofString "0") (((st + k) % 3 : Nat) : Int)
noncomputable def spellTo (ps : List Str) (st : Nat) : Nat → Str
  | 0 => Str.ofString ""
  | k + 1 => (if figOf (partAt ps k) then (if k = 0 then spellTo ps st k else spellTo ps st k ++ gapAt ps st k) ++ zerosAt st k else (if k = 0 then spellTo ps st k else spellTo ps st k ++ gapAt ps st k)) ++ partAt ps k

theorem mod3 (n : Nat) : n % 3 = 0 ∨ n % 3 = 1 ∨ n % 3 = 2 := by omega
theorem mod5 (n : Nat) : n % 5 = 0 ∨ n % 5 = 1 ∨ n % 5 = 2 ∨ n % 5 = 3 ∨ n % 5 = 4 := by omega
theorem zeros_len (st k : Nat) : (zerosAt st k).length ≤ 2 := by
  unfold zerosAt; rcases mod3 (st + k) with h | h | h <;> rw [h] <;> decide
theorem gap_len (ps : List Str) (st k : Nat) : (gapAt ps st k).length ≤ 1 := by
  unfold gapAt
  split
  · decide
  · rcases mod5 (st + k) with h | h | h | h | h <;> rw [h] <;> decide
theorem part_len {ps : List Str} (h : ∀ p ∈ ps, p.cps.size ≠ 0 ∧ p.cps.size ≤ 10) (k : Nat) : (partAt ps k).length ≤ 10 := by
  unfold partAt
  rw [List.getD_eq_getElem?_getD]
  cases e : ps[k]? with
  | none => decide
  | some p => exact (h p (List.mem_of_getElem? e)).2
theorem spell_len {ps : List Str} (h : ∀ p ∈ ps, p.cps.size ≠ 0 ∧ p.cps.size ≤ 10) (st : Nat) : ∀ k, (spellTo ps st k).length ≤ 13 * k
  | 0 => Nat.zero_le _
  | k + 1 => by
    have h1 := spell_len h st k
    have h2 := gap_len ps st k
    have h3 := zeros_len st k
    have h4 := part_len h k
    unfold spellTo
    split <;> split <;> (try simp only [PySem.Str.length_append]) <;> omega

end Mine
end
section
open PySem PySem.W PyProof.Rows PySem.Calls
set_option Elab.async false
set_option linter.unusedVariables false
set_option maxRecDepth 100000
namespace Mine
section
variable {K : Frag} {prog : Program} {w : World} {A : PySem.Around} {s : Shared} {R : Result → Shared → Prop} {hb : Heap}
/-- a def of K that raises nothing, called from anywhere -/
theorem call_A {name qual : Str} {params : Arguments} {body : List Stmt} {scope : Scope} {dV kV doc pm cdv ct oc : Value} {an od : Option Addr} {osl : Array (Option Value)} {f : Addr} {args : Args} {binds : List (Str × Value)}
    (hk0 : ∀ b o, hb.get? b = some o → s.heap.get? b = some o) (X : K.In hb) (hlim : hb.NoLimit)
    (ho : K.lookup f = some ⟨oc, od, .func (fnOf name qual params body scope dV kV doc pm an cdv ct), osl⟩) (hcd : codeIn K cdv qual = true) (hroom : A.depth < recursionLimit)
    (hbind : BindsTo s (fnOf name qual params body scope dV kV doc pm an cdv ct) args binds) (hloc : (binds.all fun y => decide (scope.names.lookup y.1 = some .local)) = true)
    (h : ∀ L h₁, Fr s.heap L h₁ (fun y => binds.reverse.lookup y) → News s.heap L h₁ [] →
      wpAny (model prog w) (A.deeper (envOf qual scope L f cdv)) (execs body (envOf qual scope L f cdv))
        (fun fl s' => R (.ok (.ret (retOf fl))) s') NoE { s with heap := h₁, toks := s.toks + binds.length })
    (hco : scope.isCoroutine = false := by rfl) (hgen : scope.isGenerator = false := by rfl) (hk : scope.kind = .function := by rfl)
    (hcell : ∀ x ∈ scope.names, x.2 ≠ .cell := by decide) : codeAny (model prog w) A (.call (.ref f) args) R s := by
  have Xs := X.keeps hk0
  refine codeAny_call_def (fd := fnOf name qual params body scope dV kV doc pm an cdv ct) (body := body) (binds := binds) hroom (Xs _ _ ho) rfl (hlim.keeps hk0) (codeRec_of Xs hcd) rfl hbind hcell (locs hloc) (fun h₁ hns hk₁ => ?_) hco hgen hk
  exact wpAny_mono (h _ h₁ ⟨hns, fun b o e => hk₁ b o e, Nat.le_refl _⟩ fun p hp => by cases hp) (fun _ _ q => q) fun _ _ q => q.elim
end
noncomputable def KeepR (s : Shared) (P : Value → Heap → Prop) (r : Result) (s' : Shared) : Prop := ∃ v h' tk', r = .ok (.ret v) ∧ s' = { s with heap := h', toks := tk' } ∧ (∀ b o, s.heap.get? b = some o → h'.get? b = some o) ∧ P v h'
noncomputable def TurnR (s : Shared) (a : Addr) (P : Value → Obj → Prop) (r : Result) (s' : Shared) : Prop :=
  ∃ v h' tk' o', r = .ok (.ret v) ∧ s' = { s with heap := h', toks := tk' } ∧ (∀ b o, b ≠ a → s.heap.get? b = some o → h'.get? b = some o) ∧ h'.get? a = some o' ∧ P v o'
section
variable {prog : Program} {w : World} {A : PySem.Around} {E : Value → Shared → Prop} {s : Shared} {hb : Heap} {L : Addr} {m : Str → Option Value} {news : List (Addr × Obj)} {f : Value} {pos : List Value} {kw : List (Str × Value)} {Q : Value → Shared → Prop}
/-- a contract that keeps all, used at a call -/
theorem keep_at (P : Value → Heap → Prop) (F : Fr hb L s.heap m) (N : News hb L s.heap news)
    (h : codeAny (model prog w) A (.call f ⟨pos, kw⟩) (KeepR s P) s)
    (k : ∀ v h' tk', (∀ b o, s.heap.get? b = some o → h'.get? b = some o) → Fr hb L h' m → News hb L h' news → P v h' → Q v { s with heap := h', toks := tk' }) :
    wpAny (model prog w) A (call f pos kw) Q E s := by
  refine wpAny_call (codeAny_mono h fun r s' h' => ?_)
  obtain ⟨v, h2, tk2, rfl, rfl, K, p⟩ := h'
  exact k v h2 tk2 K (F.keeps K) (fun q hq => ⟨K _ _ (N q hq).1, (N q hq).2⟩) p
/-- .. that turns one list of the ledger -/
theorem turn_at {a : Addr} {o : Obj} (P : Value → Obj → Prop) (F : Fr hb L s.heap m) (N : News hb L s.heap ((a, o) :: news)) (hna : ∀ p ∈ news, p.1 ≠ a)
    (h : codeAny (model prog w) A (.call f ⟨pos, kw⟩) (TurnR s a P) s)
    (k : ∀ v h' tk' o', Fr hb L h' m → News hb L h' ((a, o') :: news) → P v o' → Q v { s with heap := h', toks := tk' }) :
    wpAny (model prog w) A (call f pos kw) Q E s := by
  refine wpAny_call (codeAny_mono h fun r s' h' => ?_)
  obtain ⟨v, h2, tk2, o', rfl, rfl, K, ho, p⟩ := h'
  have ha := N _ (.head _)
  refine k v h2 tk2 o' ⟨?_, fun b x e => K b x (fun q => by rw [q, ha.2.2] at e; cases e) (F.keep b x e), F.above⟩ (fun q hq => ?_) p
  · obtain ⟨oL, es, ep, hL, r⟩ := F.ns
    exact ⟨oL, es, ep, K _ _ (Ne.symm ha.2.1) hL, r⟩
  · rcases List.mem_cons.mp hq with rfl | hq
    · exact ⟨ho, ha.2⟩
    · have n := N q (.tail _ hq)
      exact ⟨K _ _ (hna q hq) n.1, n.2⟩
end
/-- what is new stands apart -/
theorem new_apart {h₀ h : Heap} {L a : Addr} {m : Str → Option Value} {news : List (Addr × Obj)} (F : Fr h₀ L h m) (N : News h₀ L h news) (e : h.get? a = none) : a ≠ L ∧ h₀.get? a = none ∧ ∀ p ∈ news, p.1 ≠ a := by
  refine ⟨fun q => ?_, ?_, fun p hp q => ?_⟩
  · obtain ⟨oL, _, _, hL, _⟩ := F.ns
    rw [← q, e] at hL; cases hL
  · cases q : h₀.get? a with
    | none => rfl
    | some o => rw [F.keep a o q] at e; cases e
  · have := (N p hp).1
    rw [q, e] at this; cases this
theorem news_new {h₀ h h' : Heap} {L a : Addr} {o : Obj} {m : Str → Option Value} {news : List (Addr × Obj)} (F : Fr h₀ L h m) (N : News h₀ L h news) (e : h.get? a = none) (keep : ∀ b o, h.get? b = some o → h'.get? b = some o) (e' : h'.get? a = some o) :
    News h₀ L h' ((a, o) :: news) := fun p hp => by
  have n := new_apart F N e
  rcases List.mem_cons.mp hp with rfl | hp
  · exact ⟨e', n.1, n.2.1⟩
  · exact ⟨keep _ _ (N p hp).1, (N p hp).2⟩
set_option maxHeartbeats 8000000 in
theorem fig_any {w : World} {mg mb : Str → Option Value} {A : PySem.Around} {E : Value → Shared → Prop} {s : Shared} {hb : Heap} {L : Addr} {m : Str → Option Value} {news : List (Addr × Obj)} {p : Str} {tp : Tok} {Q : Value → Shared → Prop}
    (G : Gd w mg mb hb) (F : Fr hb L s.heap m) (N : News hb L s.heap news) (hroom : A.depth + 2 < recursionLimit) (hc : p.cps.size ≠ 0)
    (k : ∀ h' tk', Fr hb L h' m → News hb L h' news → Q (.bool (figOf p)) { s with heap := h', toks := tk' }) :
    wpAny (model Challenge.rw_ph0088_02.row.prog w) A (call (.ref 94) [.str p tp]) Q E s := by
  have X := (G.keeps F.keep).X
  have T := (G.keeps F.keep).T
  revert X; k_fill; intro X
  refine keep_at (fun v _ => v = .bool (figOf p)) F N (call_A (K := hd.heap_39 w.params) (binds := [(Str.ofString "part", .str p tp)]) F.keep G.X G.T.nolimit rfl rfl (by omega) (BindsTo.of_eq rfl) rfl (fun L' h₁ F' N' => ?_)) ?_
  · k_steps
    have hc0 : p.cps[0]? = some (p.cps.getD 0 0) := by
      cases e : p.cps[0]? with
      | none => exact absurd (Array.getElem?_eq_none_iff.mp e) (by omega)
      | some c => rw [Array.getD_eq_getD_getElem?, e]; rfl
    refine tail_any (typeIs_str _ _ _) PySem.F.slot_str_getitem.lookup (P.getItem_str (c := p.cps.getD 0 0) (by decide) ?_ ?_) (by with_unfolding_all rfl)
    · exact idx0 hc0
    k_steps
    exact ⟨_, _, _, rfl, rfl, F'.keep, rfl⟩
  · rintro v h' tk' _ F2 N2 rfl
    exact k h' tk' F2 N2
end Mine
end
section
open PySem PySem.W PyProof.Rows PySem.Calls
set_option Elab.async false
set_option linter.unusedVariables false
set_option maxRecDepth 100000
namespace Mine
theorem kw_binds {fd : FuncData} {args : Args} {binds : List (Str × Value)} {T D : Addr} {o oD : Obj} {items : Array Value} {n : Nat} {s : Shared} {es : Array DictEntry} {ep : Nat} {v : Value} {nm : Str} {α β : Type}
    {k : Option (Array Value) → Sem (List (Str × Value))} {k1 : Option Value → Sem α} {k2 : α → Sem β} {k3 : β → Sem (List (Str × Value))}
    (ho : s.heap.get? T = some o) (hs : o.data = .seq items n) (hD : s.heap.get? D = some oD) (hd : oD.data = .dict es ep) (hk : StrKeys es) (hx : nsFind es nm = some v)
    (h0 : fd.defaults = .ref T) (h1 : bindArgs fd args = seqItems? fd.defaults >>= k) (h2 : k (some items) = (nsGet D nm >>= k1) >>= k2 >>= k3) (h3 : (k1 (some v) >>= k2) >>= k3 = pure binds) : BindsTo s fd args binds := by
  intro M A E Q hq
  have hns : s.heap.Ns D (nsFind es) := ⟨oD, es, ep, hD, hd, hk, fun _ => rfl⟩
  rw [h1, h0]
  refine wpAny_bind (wpAny_seqItems ho hs ?_)
  rw [h2, bind_assoc, bind_assoc]
  refine wpAny_bind (wpAny_nsGet hns ?_)
  rw [hx, ← bind_assoc, h3]
  exact wpAny_pure hq
theorem strKeys1 {h : Int} {n : Str} {t : Tok} {v : Value} : StrKeys #[{ hash := h, key := .str n t, val := v }] := by
  intro e he
  rw [List.mem_singleton.mp (Array.mem_toList_iff.mpr he)]
  exact ⟨_, _, rfl⟩
end Mine
end
section
open PySem PySem.W PyProof.Rows PySem.Calls
set_option Elab.async false
set_option linter.unusedVariables false
set_option maxRecDepth 100000
namespace Mine
/-- how two values stand, whatever is made meanwhile -/
noncomputable def LtAt (prog : Program) (w : World) (s : Shared) (x v : Value) (b : Bool) : Prop :=
  ∀ (A : PySem.Around) (s' : Shared) (Q : Value → Shared → Prop) (E : Value → Shared → Prop), A.units < cLine → (∀ a o, s.heap.get? a = some o → s'.heap.get? a = some o) → Q (.bool b) s' → wpAny (model prog w) A (compareOp .Lt x v) Q E s'
noncomputable def JBi (s : Shared) (L : Addr) (a : Addr) (xv : Value) (vs : List Value) (r : Nat) (d : Nat) (s' : Shared) : Prop :=
  ∃ h tk m' lo' hi' t1 t2, s' = { s with heap := h, toks := tk } ∧ Fr s.heap L h m' ∧ m' (Str.ofString "a") = some (.ref a) ∧ m' (Str.ofString "x") = some xv ∧ m' (Str.ofString "lo") = some (.int ((lo' : Nat) : Int) t1) ∧ m' (Str.ofString "hi") = some (.int ((hi' : Nat) : Int) t2) ∧
      lo' ≤ r ∧ r ≤ hi' ∧ hi' ≤ vs.length ∧ d = hi' - lo'

set_option maxHeartbeats 8000000 in
theorem brpG {w : World} {mg mb : Str → Option Value} {A : PySem.Around} {E : Value → Shared → Prop} {s : Shared} {hb : Heap} {L : Addr} {mp : Str → Option Value} {news : List (Addr × Obj)} {a : Addr} {vs : List Value} {xv : Value} {r : Nat} {tl : Tok} {pos : List Value} {Q : Value → Shared → Prop}
    (G : Gd w mg mb hb) (F : Fr hb L s.heap mp) (N : News hb L s.heap news) (hroom : A.depth + 2 < recursionLimit) (hu : A.units + 10 < cLine) (hh : A.handled = none)
    (ha : s.heap.IsList a vs.toArray) (hr : r ≤ vs.length) (hlen : vs.length ≤ 1000) (hcmp : ∀ m v, m < vs.length → vs[m]? = some v → LtAt Challenge.rw_ph0088_02.row.prog w s xv v (decide (r ≤ m)))
    (hbind : BindsTo s (fnD ((hd.heap_39 w.params).lookup 49)) ⟨pos, []⟩ [(Str.ofString "a", .ref a), (Str.ofString "x", xv), (Str.ofString "lo", .int 0 tl), (Str.ofString "hi", .none), (Str.ofString "key", .none)])
    (k : ∀ h' tk' t, Fr hb L h' mp → News hb L h' news → Q (.int (r : Int) t) { s with heap := h', toks := tk' }) :
    wpAny (model Challenge.rw_ph0088_02.row.prog w) A (call (.ref 49) pos) Q E s := by
  obtain ⟨ah, ad, af, ag, au⟩ := A
  obtain rfl : ah = none := hh
  replace hroom : ad + 2 < recursionLimit := hroom
  replace hu : au + 10 < cLine := hu
  have Gs := G.keeps F.keep
  have X := Gs.X
  have T := Gs.T
  revert X; k_fill; intro X
  refine keep_at (fun v _ => ∃ t, v = .int (r : Int) t) F N (call_A (K := hd.heap_39 w.params) (binds := [(Str.ofString "a", .ref a), (Str.ofString "x", xv), (Str.ofString "lo", .int 0 tl), (Str.ofString "hi", .none), (Str.ofString "key", .none)]) F.keep G.X G.T.nolimit rfl rfl (by show ad < _; exact units_lt0 hroom) ?bind rfl (fun L' h₁ F' N' => ?_)) ?_
  case bind => exact hbind
  · clear k F N hbind
    refine stmt_any (if_any ?_)
    k_steps
    refine wpAny_execs_nil (nxt_go ?_)
    refine stmt_any (if_any ?_)
    k_steps
    refine stmt_any ?_
    k_steps
    have esz : vs.toArray.size = vs.length := by simp
    rename Fr _ _ _ _ => F
    have hl1 : (_ : Heap).IsList a vs.toArray := ha.at fun o e => F.keep _ _ e
    refine Calls.call_len_list hl1 (by rw [esz]; exact nat63 hlen) ?_
    rw [esz]
    k_steps
    refine nxt_go (wpAny_execs_nil (nxt_go ?_))
    rename Fr _ _ _ _ => F
    refine stmt_any (if_any ?_)
    k_steps
    refine stmt_any ?_
    unfold Nxt
    refine wpAny_While ?_
    refine while_any (JBi s L' a xv vs r) ?_ (vs.length - 0) ⟨_, _, _, 0, vs.length, _, _, rfl, F, rfl, rfl, rfl, rfl, Nat.zero_le _, hr, Nat.le_refl _, rfl⟩
    clear F
    rintro d s' ⟨h, tk, m', lo', hi', t1, t2, rfl, F, ma, mx, ml, mh, e2, e3, e4, rfl⟩
    have F' := pins F [(Str.ofString "a", .ref a), (Str.ofString "x", xv), (Str.ofString "lo", .int ((lo' : Nat) : Int) t1), (Str.ofString "hi", .int ((hi' : Nat) : Int) t2)] ⟨ma, mx, ml, mh, trivial⟩
    have N : News s.heap L' h [] := fun p hp => by cases hp
    clear F
    k_steps
    · rename_i hlt
      have hlt : lo' < hi' := bis_lt hlt
      have hm : ((lo' : Int) + (hi' : Int)).fdiv 2 = (((lo' + hi') / 2 : Nat) : Int) := bis_hm
      unfold Nxt
      refine stmt_any ?_
      k_steps
      refine nxt_go ?_
      rename Fr _ _ _ _ => F
      rename News _ _ _ _ => N
      rw [hm] at F
      dsimp only at F N ⊢
      generalize hmid : (lo' + hi') / 2 = mid at F
      obtain ⟨m1, m2⟩ := bis_mid hlt hmid
      have m3 : mid < vs.length := Nat.lt_of_lt_of_le m2 e4
      obtain ⟨v, hv⟩ : ∃ v, vs[mid]? = some v := ⟨_, List.getElem?_eq_getElem m3⟩
      have hc := hcmp mid v m3 hv
      refine stmt_any (if_any ?_)
      k_steps
      refine item_litK (vs := vs) (ha.at fun o e => F.keep _ _ e) (Int.natCast_nonneg _) (nat63 (Nat.le_trans (Nat.le_of_lt m3) hlen)) (v := v) (by simpa using hv) ?_
      k_steps
      refine hc _ _ _ _ (units_lt hu (by decide)) (fun b o e => F.keep b o e) ?_
      by_cases hmr : r ≤ mid
      · rw [decide_eq_true hmr]
        k_steps
        refine stmt_any ?_
        k_steps
        refine nxt_go (wpAny_execs_nil (nxt_go (wpAny_execs_nil ?_)))
        rename Fr _ _ _ _ => F
        exact ⟨mid - lo', bis_dn m1 m2, _, _, _, lo', mid, t1, _, rfl, F, rfl, rfl, rfl, rfl, e2, hmr, Nat.le_of_lt m3, rfl⟩
      · rw [decide_eq_false hmr]
        k_steps
        refine stmt_any ?_
        k_steps
        refine nxt_go (wpAny_execs_nil (nxt_go (wpAny_execs_nil ?_)))
        rename Fr _ _ _ _ => F
        exact ⟨hi' - (mid + 1), bis_up m1 m2, _, _, _, mid + 1, hi', _, t2, rfl, F, rfl, rfl, rfl, rfl, (Nat.lt_of_not_le hmr), e3, e4, rfl⟩
    · rename_i hlt
      have hlr : lo' = r := bis_end hlt e2 e3
      subst hlr
      unfold Nxt
      dsimp only
      refine wpAny_execs_nil ?_
      dsimp only
      refine stmt_any ?_
      k_steps
      exact ⟨_, _, _, rfl, rfl, F'.keep, _, rfl⟩
  · rintro v h' tk' _ F2 N2 ⟨t, rfl⟩
    exact k h' tk' t F2 N2


set_option maxHeartbeats 8000000 in
theorem brp2 {w : World} {mg mb : Str → Option Value} {A : PySem.Around} {E : Value → Shared → Prop} {s : Shared} {hb : Heap} {L : Addr} {mp : Str → Option Value} {news : List (Addr × Obj)} {a : Addr} {vs : List Value} {xv : Value} {r : Nat} {Q : Value → Shared → Prop}
    (G : Gd w mg mb hb) (F : Fr hb L s.heap mp) (N : News hb L s.heap news) (hroom : A.depth + 2 < recursionLimit) (hu : A.units + 10 < cLine) (hh : A.handled = none)
    (ha : s.heap.IsList a vs.toArray) (hr : r ≤ vs.length) (hlen : vs.length ≤ 1000) (hcmp : ∀ m v, m < vs.length → vs[m]? = some v → LtAt Challenge.rw_ph0088_02.row.prog w s xv v (decide (r ≤ m)))
    (k : ∀ h' tk' t, Fr hb L h' mp → News hb L h' news → Q (.int (r : Int) t) { s with heap := h', toks := tk' }) :
    wpAny (model Challenge.rw_ph0088_02.row.prog w) A (call (.ref 49) [.ref a, xv]) Q E s := by
  have Gs := G.keeps F.keep
  have hb : BindsTo s (fnD ((hd.heap_39 w.params).lookup 49)) ⟨[.ref a, xv], []⟩ [(Str.ofString "a", .ref a), (Str.ofString "x", xv), (Str.ofString "lo", .int 0 297), (Str.ofString "hi", .none), (Str.ofString "key", .none)] := by
    have e : fnD ((hd.heap_39 w.params).lookup 49) = fnOf _ _ _ _ _ _ _ _ _ _ _ _ := rfl
    rw [e]
    exact kw_binds (Gs.X 41 _ rfl) rfl (Gs.X 42 _ rfl) rfl strKeys1 rfl rfl rfl rfl rfl
  exact brpG (tl := 297) G F N hroom hu hh ha hr hlen hcmp hb k

set_option maxHeartbeats 8000000 in
theorem brp4 {w : World} {mg mb : Str → Option Value} {A : PySem.Around} {E : Value → Shared → Prop} {s : Shared} {hb : Heap} {L : Addr} {mp : Str → Option Value} {news : List (Addr × Obj)} {a : Addr} {vs : List Value} {xv : Value} {r : Nat} {tl : Tok} {Q : Value → Shared → Prop}
    (G : Gd w mg mb hb) (F : Fr hb L s.heap mp) (N : News hb L s.heap news) (hroom : A.depth + 2 < recursionLimit) (hu : A.units + 10 < cLine) (hh : A.handled = none)
    (ha : s.heap.IsList a vs.toArray) (hr : r ≤ vs.length) (hlen : vs.length ≤ 1000) (hcmp : ∀ m v, m < vs.length → vs[m]? = some v → LtAt Challenge.rw_ph0088_02.row.prog w s xv v (decide (r ≤ m)))
    (k : ∀ h' tk' t, Fr hb L h' mp → News hb L h' news → Q (.int (r : Int) t) { s with heap := h', toks := tk' }) :
    wpAny (model Challenge.rw_ph0088_02.row.prog w) A (call (.ref 49) [.ref a, xv, .int 0 tl, .none]) Q E s := by
  have Gs := G.keeps F.keep
  have hb : BindsTo s (fnD ((hd.heap_39 w.params).lookup 49)) ⟨[.ref a, xv, .int 0 tl, .none], []⟩ [(Str.ofString "a", .ref a), (Str.ofString "x", xv), (Str.ofString "lo", .int 0 tl), (Str.ofString "hi", .none), (Str.ofString "key", .none)] := by
    have e : fnD ((hd.heap_39 w.params).lookup 49) = fnOf _ _ _ _ _ _ _ _ _ _ _ _ := rfl
    rw [e]
    exact kw_binds (Gs.X 41 _ rfl) rfl (Gs.X 42 _ rfl) rfl strKeys1 rfl rfl rfl rfl rfl
  exact brpG (tl := tl) G F N hroom hu hh ha hr hlen hcmp hb k

set_option maxHeartbeats 8000000 in
theorem blpG {w : World} {mg mb : Str → Option Value} {A : PySem.Around} {E : Value → Shared → Prop} {s : Shared} {hb : Heap} {L : Addr} {mp : Str → Option Value} {news : List (Addr × Obj)} {a : Addr} {vs : List Value} {xv : Value} {r : Nat} {tl : Tok} {pos : List Value} {Q : Value → Shared → Prop}
    (G : Gd w mg mb hb) (F : Fr hb L s.heap mp) (N : News hb L s.heap news) (hroom : A.depth + 2 < recursionLimit) (hu : A.units + 10 < cLine) (hh : A.handled = none)
    (ha : s.heap.IsList a vs.toArray) (hr : r ≤ vs.length) (hlen : vs.length ≤ 1000) (hcmp : ∀ m v, m < vs.length → vs[m]? = some v → LtAt Challenge.rw_ph0088_02.row.prog w s v xv (decide (m < r)))
    (hbind : BindsTo s (fnD ((hd.heap_39 w.params).lookup 67)) ⟨pos, []⟩ [(Str.ofString "a", .ref a), (Str.ofString "x", xv), (Str.ofString "lo", .int 0 tl), (Str.ofString "hi", .none), (Str.ofString "key", .none)])
    (k : ∀ h' tk' t, Fr hb L h' mp → News hb L h' news → Q (.int (r : Int) t) { s with heap := h', toks := tk' }) :
    wpAny (model Challenge.rw_ph0088_02.row.prog w) A (call (.ref 67) pos) Q E s := by
  obtain ⟨ah, ad, af, ag, au⟩ := A
  obtain rfl : ah = none := hh
  replace hroom : ad + 2 < recursionLimit := hroom
  replace hu : au + 10 < cLine := hu
  have Gs := G.keeps F.keep
  have X := Gs.X
  have T := Gs.T
  revert X; k_fill; intro X
  refine keep_at (fun v _ => ∃ t, v = .int (r : Int) t) F N (call_A (K := hd.heap_39 w.params) (binds := [(Str.ofString "a", .ref a), (Str.ofString "x", xv), (Str.ofString "lo", .int 0 tl), (Str.ofString "hi", .none), (Str.ofString "key", .none)]) F.keep G.X G.T.nolimit rfl rfl (by show ad < _; exact units_lt0 hroom) ?bind rfl (fun L' h₁ F' N' => ?_)) ?_
  case bind => exact hbind
  · clear k F N hbind
    refine stmt_any (if_any ?_)
    k_steps
    refine wpAny_execs_nil (nxt_go ?_)
    refine stmt_any (if_any ?_)
    k_steps
    refine stmt_any ?_
    k_steps
    have esz : vs.toArray.size = vs.length := by simp
    rename Fr _ _ _ _ => F
    have hl1 : (_ : Heap).IsList a vs.toArray := ha.at fun o e => F.keep _ _ e
    refine Calls.call_len_list hl1 (by rw [esz]; exact nat63 hlen) ?_
    rw [esz]
    k_steps
    refine nxt_go (wpAny_execs_nil (nxt_go ?_))
    rename Fr _ _ _ _ => F
    refine stmt_any (if_any ?_)
    k_steps
    refine stmt_any ?_
    unfold Nxt
    refine wpAny_While ?_
    refine while_any (JBi s L' a xv vs r) ?_ (vs.length - 0) ⟨_, _, _, 0, vs.length, _, _, rfl, F, rfl, rfl, rfl, rfl, Nat.zero_le _, hr, Nat.le_refl _, rfl⟩
    clear F
    rintro d s' ⟨h, tk, m', lo', hi', t1, t2, rfl, F, ma, mx, ml, mh, e2, e3, e4, rfl⟩
    have F' := pins F [(Str.ofString "a", .ref a), (Str.ofString "x", xv), (Str.ofString "lo", .int ((lo' : Nat) : Int) t1), (Str.ofString "hi", .int ((hi' : Nat) : Int) t2)] ⟨ma, mx, ml, mh, trivial⟩
    have N : News s.heap L' h [] := fun p hp => by cases hp
    clear F
    k_steps
    · rename_i hlt
      have hlt : lo' < hi' := bis_lt hlt
      have hm : ((lo' : Int) + (hi' : Int)).fdiv 2 = (((lo' + hi') / 2 : Nat) : Int) := bis_hm
      unfold Nxt
      refine stmt_any ?_
      k_steps
      refine nxt_go ?_
      rename Fr _ _ _ _ => F
      rename News _ _ _ _ => N
      rw [hm] at F
      dsimp only at F N ⊢
      generalize hmid : (lo' + hi') / 2 = mid at F
      obtain ⟨m1, m2⟩ := bis_mid hlt hmid
      have m3 : mid < vs.length := Nat.lt_of_lt_of_le m2 e4
      obtain ⟨v, hv⟩ : ∃ v, vs[mid]? = some v := ⟨_, List.getElem?_eq_getElem m3⟩
      have hc := hcmp mid v m3 hv
      refine stmt_any (if_any ?_)
      k_steps
      refine item_litK (vs := vs) (ha.at fun o e => F.keep _ _ e) (Int.natCast_nonneg _) (nat63 (Nat.le_trans (Nat.le_of_lt m3) hlen)) (v := v) (by simpa using hv) ?_
      k_steps
      refine hc _ _ _ _ (units_lt hu (by decide)) (fun b o e => F.keep b o e) ?_
      by_cases hmr : mid < r
      · rw [decide_eq_true hmr]
        k_steps
        refine stmt_any ?_
        k_steps
        refine nxt_go (wpAny_execs_nil (nxt_go (wpAny_execs_nil ?_)))
        rename Fr _ _ _ _ => F
        exact ⟨hi' - (mid + 1), bis_up m1 m2, _, _, _, mid + 1, hi', _, t2, rfl, F, rfl, rfl, rfl, rfl, hmr, e3, e4, rfl⟩
      · rw [decide_eq_false hmr]
        k_steps
        refine stmt_any ?_
        k_steps
        refine nxt_go (wpAny_execs_nil (nxt_go (wpAny_execs_nil ?_)))
        rename Fr _ _ _ _ => F
        exact ⟨mid - lo', bis_dn m1 m2, _, _, _, lo', mid, t1, _, rfl, F, rfl, rfl, rfl, rfl, e2, (Nat.le_of_not_lt hmr), Nat.le_of_lt m3, rfl⟩
    · rename_i hlt
      have hlr : lo' = r := bis_end hlt e2 e3
      subst hlr
      unfold Nxt
      dsimp only
      refine wpAny_execs_nil ?_
      dsimp only
      refine stmt_any ?_
      k_steps
      exact ⟨_, _, _, rfl, rfl, F'.keep, _, rfl⟩
  · rintro v h' tk' _ F2 N2 ⟨t, rfl⟩
    exact k h' tk' t F2 N2


set_option maxHeartbeats 8000000 in
theorem blp2 {w : World} {mg mb : Str → Option Value} {A : PySem.Around} {E : Value → Shared → Prop} {s : Shared} {hb : Heap} {L : Addr} {mp : Str → Option Value} {news : List (Addr × Obj)} {a : Addr} {vs : List Value} {xv : Value} {r : Nat} {Q : Value → Shared → Prop}
    (G : Gd w mg mb hb) (F : Fr hb L s.heap mp) (N : News hb L s.heap news) (hroom : A.depth + 2 < recursionLimit) (hu : A.units + 10 < cLine) (hh : A.handled = none)
    (ha : s.heap.IsList a vs.toArray) (hr : r ≤ vs.length) (hlen : vs.length ≤ 1000) (hcmp : ∀ m v, m < vs.length → vs[m]? = some v → LtAt Challenge.rw_ph0088_02.row.prog w s v xv (decide (m < r)))
    (k : ∀ h' tk' t, Fr hb L h' mp → News hb L h' news → Q (.int (r : Int) t) { s with heap := h', toks := tk' }) :
    wpAny (model Challenge.rw_ph0088_02.row.prog w) A (call (.ref 67) [.ref a, xv]) Q E s := by
  have Gs := G.keeps F.keep
  have hb : BindsTo s (fnD ((hd.heap_39 w.params).lookup 67)) ⟨[.ref a, xv], []⟩ [(Str.ofString "a", .ref a), (Str.ofString "x", xv), (Str.ofString "lo", .int 0 324), (Str.ofString "hi", .none), (Str.ofString "key", .none)] := by
    have e : fnD ((hd.heap_39 w.params).lookup 67) = fnOf _ _ _ _ _ _ _ _ _ _ _ _ := rfl
    rw [e]
    exact kw_binds (Gs.X 59 _ rfl) rfl (Gs.X 60 _ rfl) rfl strKeys1 rfl rfl rfl rfl rfl
  exact blpG (tl := 324) G F N hroom hu hh ha hr hlen hcmp hb k

set_option maxHeartbeats 8000000 in
theorem blp4 {w : World} {mg mb : Str → Option Value} {A : PySem.Around} {E : Value → Shared → Prop} {s : Shared} {hb : Heap} {L : Addr} {mp : Str → Option Value} {news : List (Addr × Obj)} {a : Addr} {vs : List Value} {xv : Value} {r : Nat} {tl : Tok} {Q : Value → Shared → Prop}
    (G : Gd w mg mb hb) (F : Fr hb L s.heap mp) (N : News hb L s.heap news) (hroom : A.depth + 2 < recursionLimit) (hu : A.units + 10 < cLine) (hh : A.handled = none)
    (ha : s.heap.IsList a vs.toArray) (hr : r ≤ vs.length) (hlen : vs.length ≤ 1000) (hcmp : ∀ m v, m < vs.length → vs[m]? = some v → LtAt Challenge.rw_ph0088_02.row.prog w s v xv (decide (m < r)))
    (k : ∀ h' tk' t, Fr hb L h' mp → News hb L h' news → Q (.int (r : Int) t) { s with heap := h', toks := tk' }) :
    wpAny (model Challenge.rw_ph0088_02.row.prog w) A (call (.ref 67) [.ref a, xv, .int 0 tl, .none]) Q E s := by
  have Gs := G.keeps F.keep
  have hb : BindsTo s (fnD ((hd.heap_39 w.params).lookup 67)) ⟨[.ref a, xv, .int 0 tl, .none], []⟩ [(Str.ofString "a", .ref a), (Str.ofString "x", xv), (Str.ofString "lo", .int 0 tl), (Str.ofString "hi", .none), (Str.ofString "key", .none)] := by
    have e : fnD ((hd.heap_39 w.params).lookup 67) = fnOf _ _ _ _ _ _ _ _ _ _ _ _ := rfl
    rw [e]
    exact kw_binds (Gs.X 59 _ rfl) rfl (Gs.X 60 _ rfl) rfl strKeys1 rfl rfl rfl rfl rfl
  exact blpG (tl := tl) G F N hroom hu hh ha hr hlen hcmp hb k
end Mine
end
section
open PySem PySem.W PyProof.Rows PySem.Calls
set_option Elab.async false
set_option linter.unusedVariables false
set_option maxRecDepth 100000
namespace Mine

set_option maxHeartbeats 8000000 in
theorem irp {w : World} {mg mb : Str → Option Value} {A : PySem.Around} {E : Value → Shared → Prop} {s : Shared} {hb : Heap} {L : Addr} {mp : Str → Option Value} {news : List (Addr × Obj)} {a : Addr} {vs : List Value} {n : Nat} {xv : Value} {r : Nat} {Q : Value → Shared → Prop}
    (G : Gd w mg mb hb) (F : Fr hb L s.heap mp) (N : News hb L s.heap ((a, W.listOf vs.toArray n) :: news)) (hna : ∀ p ∈ news, p.1 ≠ a) (hroom : A.depth + 4 < recursionLimit) (hu : A.units + 200 < cLine) (hh : A.handled = none)
    (hr : r ≤ vs.length) (hlen : vs.length ≤ 900) (hcmp : ∀ m v, m < vs.length → vs[m]? = some v → LtAt Challenge.rw_ph0088_02.row.prog w s xv v (decide (r ≤ m)))
    (k : ∀ h' tk' n', Fr hb L h' mp → News hb L h' ((a, W.listOf (vs.take r ++ xv :: vs.drop r).toArray n') :: news) → Q .none { s with heap := h', toks := tk' }) :
    wpAny (model Challenge.rw_ph0088_02.row.prog w) A (call (.ref 40) [.ref a, xv]) Q E s := by
  obtain ⟨ah, ad, af, ag, au⟩ := A
  obtain rfl : ah = none := hh
  replace hroom : ad + 4 < recursionLimit := hroom
  replace hu : au + 200 < cLine := hu
  have ha0 := (N _ (.head _)).2.2
  have ha1 := (N _ (.head _)).1
  have hb0 : ∀ b o, hb.get? b = some o → (TI.gone s.heap [a]).get? b = some o := fun b o e =>
    (TI.gone_get fun hm => by rw [List.mem_singleton.mp hm, ha0] at e; cases e).trans (F.keep b o e)
  have Gs := G.keeps F.keep
  have Gg := G.keeps hb0
  have X := Gg.X
  have T := Gg.T
  revert X; k_fill; intro X
  refine turn_at (fun v o' => v = .none ∧ ∃ n', o' = W.listOf (vs.take r ++ xv :: vs.drop r).toArray n') F N hna (call_A (K := hd.heap_39 w.params) (binds := [(Str.ofString "a", .ref a), (Str.ofString "x", xv), (Str.ofString "lo", .int 0 284), (Str.ofString "hi", .none), (Str.ofString "key", .none)]) F.keep G.X G.T.nolimit rfl rfl (by show ad < _; exact units_lt0 hroom) ?bind rfl (fun L' h₁ F0 N0 => ?_)) ?_
  case bind => exact kw_binds (Gs.X 32 _ rfl) rfl (Gs.X 33 _ rfl) rfl strKeys1 rfl rfl rfl rfl rfl
  · clear k F N
    have haL := Fr.off F0 ha1
    have F1 : Fr (TI.gone s.heap [a]) L' h₁ _ := ⟨F0.ns, fun b o e => F0.keep b o (TI.gone_some e).2, by rw [bas_size]; exact F0.above⟩
    have N1 : News (TI.gone s.heap [a]) L' h₁ [(a, W.listOf vs.toArray n)] := fun p hp => by
      rw [List.mem_singleton.mp hp]
      exact ⟨F0.keep _ _ ha1, haL, TI.gone_none (List.mem_singleton.mpr rfl)⟩
    have hk1 := F0.keep
    clear F0 N0
    refine stmt_any (if_any ?_)
    k_steps
    unfold Nxt
    refine stmt_any ?_
    k_steps
    refine brp4 (r := r) Gg F1 N1 (by show ad + 1 + 2 < _; exact units_lt2 hroom (by decide)) (by show au + _ + 10 < _; exact units_lt2 hu (by decide)) rfl ⟨_, (N1 _ (.head _)).1, rfl, _, rfl⟩ hr (by omega) (fun m v hm hv A' s' Q' E' hA' hk' q => hcmp m v hm hv A' s' Q' E' hA' (fun b o e => hk' b o (hk1 b o e)) q) ?_
    intro h5 tk5 t5 F5 N5
    clear F1 N1
    k_steps
    refine nxt_go (wpAny_execs_nil (nxt_go ?_))
    rename Fr _ _ _ _ => F6
    rename News _ _ _ _ => N6
    dsimp only at F6 N6 ⊢
    refine stmt_any ?_
    k_steps
    have hin : kl_ins vs.toArray.toList (r : Int) xv = vs.take r ++ xv :: vs.drop r := by
      unfold kl_ins
      rw [if_neg (by omega)]
      simp [Nat.min_eq_left hr]
    refine kl_insert F6 N6 (l := vs.take r ++ xv :: vs.drop r) (by rw [Builtin.List.listFitsIndex]; simp; omega) hin (.head fun p hp e => by cases hp) (by rw [sizeLine_eq]; simp; omega) ?_
    intro h7 F7 N7
    k_steps
    refine nxt_go (wpAny_execs_nil ?_)
    refine ⟨_, h7, _, _, rfl, rfl, fun b o h1 e => ?_, (N7 _ (.head _)).1, rfl, _, rfl⟩
    exact F7.keep b o ((TI.gone_get fun hm => h1 (List.mem_singleton.mp hm)).trans e)
  · rintro v h' tk' o' F2 N2 ⟨rfl, n', rfl⟩
    exact k h' tk' n' F2 N2


set_option maxHeartbeats 8000000 in
theorem ilp {w : World} {mg mb : Str → Option Value} {A : PySem.Around} {E : Value → Shared → Prop} {s : Shared} {hb : Heap} {L : Addr} {mp : Str → Option Value} {news : List (Addr × Obj)} {a : Addr} {vs : List Value} {n : Nat} {xv : Value} {r : Nat} {Q : Value → Shared → Prop}
    (G : Gd w mg mb hb) (F : Fr hb L s.heap mp) (N : News hb L s.heap ((a, W.listOf vs.toArray n) :: news)) (hna : ∀ p ∈ news, p.1 ≠ a) (hroom : A.depth + 4 < recursionLimit) (hu : A.units + 200 < cLine) (hh : A.handled = none)
    (hr : r ≤ vs.length) (hlen : vs.length ≤ 900) (hcmp : ∀ m v, m < vs.length → vs[m]? = some v → LtAt Challenge.rw_ph0088_02.row.prog w s v xv (decide (m < r)))
    (k : ∀ h' tk' n', Fr hb L h' mp → News hb L h' ((a, W.listOf (vs.take r ++ xv :: vs.drop r).toArray n') :: news) → Q .none { s with heap := h', toks := tk' }) :
    wpAny (model Challenge.rw_ph0088_02.row.prog w) A (call (.ref 58) [.ref a, xv]) Q E s := by
  obtain ⟨ah, ad, af, ag, au⟩ := A
  obtain rfl : ah = none := hh
  replace hroom : ad + 4 < recursionLimit := hroom
  replace hu : au + 200 < cLine := hu
  have ha0 := (N _ (.head _)).2.2
  have ha1 := (N _ (.head _)).1
  have hb0 : ∀ b o, hb.get? b = some o → (TI.gone s.heap [a]).get? b = some o := fun b o e =>
    (TI.gone_get fun hm => by rw [List.mem_singleton.mp hm, ha0] at e; cases e).trans (F.keep b o e)
  have Gs := G.keeps F.keep
  have Gg := G.keeps hb0
  have X := Gg.X
  have T := Gg.T
  revert X; k_fill; intro X
  refine turn_at (fun v o' => v = .none ∧ ∃ n', o' = W.listOf (vs.take r ++ xv :: vs.drop r).toArray n') F N hna (call_A (K := hd.heap_39 w.params) (binds := [(Str.ofString "a", .ref a), (Str.ofString "x", xv), (Str.ofString "lo", .int 0 311), (Str.ofString "hi", .none), (Str.ofString "key", .none)]) F.keep G.X G.T.nolimit rfl rfl (by show ad < _; exact units_lt0 hroom) ?bind rfl (fun L' h₁ F0 N0 => ?_)) ?_
  case bind => exact kw_binds (Gs.X 50 _ rfl) rfl (Gs.X 51 _ rfl) rfl strKeys1 rfl rfl rfl rfl rfl
  · clear k F N
    have haL := Fr.off F0 ha1
    have F1 : Fr (TI.gone s.heap [a]) L' h₁ _ := ⟨F0.ns, fun b o e => F0.keep b o (TI.gone_some e).2, by rw [bas_size]; exact F0.above⟩
    have N1 : News (TI.gone s.heap [a]) L' h₁ [(a, W.listOf vs.toArray n)] := fun p hp => by
      rw [List.mem_singleton.mp hp]
      exact ⟨F0.keep _ _ ha1, haL, TI.gone_none (List.mem_singleton.mpr rfl)⟩
    have hk1 := F0.keep
    clear F0 N0
    refine stmt_any (if_any ?_)
    k_steps
    unfold Nxt
    refine stmt_any ?_
    k_steps
    refine blp4 (r := r) Gg F1 N1 (by show ad + 1 + 2 < _; exact units_lt2 hroom (by decide)) (by show au + _ + 10 < _; exact units_lt2 hu (by decide)) rfl ⟨_, (N1 _ (.head _)).1, rfl, _, rfl⟩ hr (by omega) (fun m v hm hv A' s' Q' E' hA' hk' q => hcmp m v hm hv A' s' Q' E' hA' (fun b o e => hk' b o (hk1 b o e)) q) ?_
    intro h5 tk5 t5 F5 N5
    clear F1 N1
    k_steps
    refine nxt_go (wpAny_execs_nil (nxt_go ?_))
    rename Fr _ _ _ _ => F6
    rename News _ _ _ _ => N6
    dsimp only at F6 N6 ⊢
    refine stmt_any ?_
    k_steps
    have hin : kl_ins vs.toArray.toList (r : Int) xv = vs.take r ++ xv :: vs.drop r := by
      unfold kl_ins
      rw [if_neg (by omega)]
      simp [Nat.min_eq_left hr]
    refine kl_insert F6 N6 (l := vs.take r ++ xv :: vs.drop r) (by rw [Builtin.List.listFitsIndex]; simp; omega) hin (.head fun p hp e => by cases hp) (by rw [sizeLine_eq]; simp; omega) ?_
    intro h7 F7 N7
    k_steps
    refine nxt_go (wpAny_execs_nil ?_)
    refine ⟨_, h7, _, _, rfl, rfl, fun b o h1 e => ?_, (N7 _ (.head _)).1, rfl, _, rfl⟩
    exact F7.keep b o ((TI.gone_get fun hm => h1 (List.mem_singleton.mp hm)).trans e)
  · rintro v h' tk' o' F2 N2 ⟨rfl, n', rfl⟩
    exact k h' tk' n' F2 N2

end Mine
end
section
open PySem PySem.W PyProof.Rows PySem.Calls
set_option Elab.async false
set_option linter.unusedVariables false
namespace Mine
noncomputable def lexLt (p q : Nat × Nat) : Bool := decide (p.1 < q.1) || (decide (p.1 = q.1) && decide (p.2 < q.2))
theorem lexLt_iff {p q : Nat × Nat} : lexLt p q = true ↔ p.1 < q.1 ∨ (p.1 = q.1 ∧ p.2 < q.2) := by
  unfold lexLt; simp
theorem lexLt_false {p q : Nat × Nat} : lexLt p q = false ↔ ¬ (p.1 < q.1 ∨ (p.1 = q.1 ∧ p.2 < q.2)) := by
  rw [← lexLt_iff]; simp
noncomputable abbrev atoms2 (p : Nat × Nat) : List Atom := [.i (p.1 : Int), .i (p.2 : Int)]
theorem row_lex (p q : Nat × Nat) : rowLt (atoms2 p) (atoms2 q) = lexLt p q ∧ Comp (atoms2 p) (atoms2 q) := by
  refine ⟨?_, ?_⟩
  · unfold atoms2 lexLt
    simp only [rowLt, Atom.lt]
    by_cases h1 : p.1 = q.1
    · rw [if_pos (by rw [h1])]
      by_cases h2 : p.2 = q.2
      · rw [if_pos (by rw [h2])]; simp [h1, h2]
      · rw [if_neg (by intro h; injection h with h; exact h2 (by omega))]; simp [h1]
    · rw [if_neg (by intro h; injection h with h; exact h1 (by omega))]; simp [h1]
  · exact ⟨rfl, fun _ => ⟨rfl, fun _ => trivial⟩⟩
/-- in a row in which P, once true, stays true: where it begins -/
theorem cut_of {α : Type} (P : α → Bool) : ∀ l : List α, l.Pairwise (fun a b => P a = true → P b = true) → ∃ r, r ≤ l.length ∧ ∀ m q, l[m]? = some q → P q = decide (r ≤ m)
  | [], _ => ⟨0, Nat.le_refl _, fun m q h => by simp at h⟩
  | a :: l, h => by
    obtain ⟨h1, h2⟩ := List.pairwise_cons.mp h
    cases e : P a with
    | true =>
      refine ⟨0, Nat.zero_le _, fun m q hq => ?_⟩
      rw [decide_eq_true (Nat.zero_le m)]
      cases m with
      | zero => simp at hq; rw [← hq]; exact e
      | succ m => exact h1 q (List.mem_of_getElem? (by simpa using hq)) e
    | false =>
      obtain ⟨r, hr, k⟩ := cut_of P l h2
      refine ⟨r + 1, by simp; omega, fun m q hq => ?_⟩
      cases m with
      | zero => simp at hq; rw [← hq, e]; exact (decide_eq_false (by omega)).symm
      | succ m =>
        rw [k m q (by simpa using hq)]
        exact decide_eq_decide.mpr (by omega)
noncomputable def Lex (ps : List (Nat × Nat)) : Prop := ps.Pairwise fun p q => lexLt q p = false
theorem pair_ins {α : Type} {R : α → α → Prop} {l : List α} {r : Nat} {x : α} (h : l.Pairwise R) (h1 : ∀ a ∈ l.take r, R a x) (h2 : ∀ b ∈ l.drop r, R x b) : (l.take r ++ x :: l.drop r).Pairwise R := by
  have h0 := h
  rw [← List.take_append_drop r l] at h0
  obtain ⟨a1, a2, a3⟩ := List.pairwise_append.mp h0
  refine List.pairwise_append.mpr ⟨a1, List.pairwise_cons.mpr ⟨h2, a2⟩, fun a ha b hb => ?_⟩
  rcases List.mem_cons.mp hb with rfl | hb
  · exact h1 a ha
  · exact a3 a ha b hb
theorem perm_ins {α : Type} (l : List α) (r : Nat) (x : α) : (l.take r ++ x :: l.drop r).Perm (x :: l) := by
  have := (List.perm_middle (a := x) (l₁ := l.take r) (l₂ := l.drop r))
  rwa [List.take_append_drop] at this
theorem mem_take_ix {α : Type} {l : List α} {r : Nat} {a : α} (h : a ∈ l.take r) : ∃ m, m < r ∧ l[m]? = some a := by
  obtain ⟨m, hm⟩ := List.getElem?_of_mem h
  rw [List.getElem?_take] at hm
  split at hm
  · exact ⟨m, by assumption, hm⟩
  · cases hm
theorem mem_drop_ix {α : Type} {l : List α} {r : Nat} {a : α} (h : a ∈ l.drop r) : ∃ m, r ≤ m ∧ l[m]? = some a := by
  obtain ⟨m, hm⟩ := List.getElem?_of_mem h
  rw [List.getElem?_drop] at hm
  exact ⟨r + m, Nat.le_add_right _ _, hm⟩
theorem lex_right {ps : List (Nat × Nat)} (h : Lex ps) (x : Nat × Nat) : ∃ r, r ≤ ps.length ∧ (∀ m q, ps[m]? = some q → lexLt x q = decide (r ≤ m)) ∧ Lex (ps.take r ++ x :: ps.drop r) := by
  obtain ⟨r, hr, k⟩ := cut_of (fun q => lexLt x q) ps (h.imp fun {a b} hab ha => by
    rw [lexLt_false] at hab; rw [lexLt_iff] at ha ⊢; omega)
  refine ⟨r, hr, k, pair_ins h (fun a ha => ?_) fun b hb => ?_⟩
  · obtain ⟨m, hm, e⟩ := mem_take_ix ha
    rw [k m a e, decide_eq_false (by omega)]
  · obtain ⟨m, hm, e⟩ := mem_drop_ix hb
    have := k m b e
    rw [decide_eq_true hm, lexLt_iff] at this
    rw [lexLt_false]; omega
theorem lex_left {ps : List (Nat × Nat)} (h : Lex ps) (x : Nat × Nat) : ∃ r, r ≤ ps.length ∧ (∀ m q, ps[m]? = some q → lexLt q x = decide (m < r)) ∧ Lex (ps.take r ++ x :: ps.drop r) := by
  obtain ⟨r, hr, k⟩ := cut_of (fun q => !lexLt q x) ps (h.imp fun {a b} hab ha => by
    simp only [Bool.not_eq_true', lexLt_false] at hab ha ⊢; omega)
  refine ⟨r, hr, fun m q hq => ?_, pair_ins h (fun a ha => ?_) fun b hb => ?_⟩
  · have := k m q hq
    cases e : lexLt q x with
    | true => rw [e] at this; exact (decide_eq_true (by have := of_decide_eq_false this.symm; omega)).symm
    | false => rw [e] at this; exact (decide_eq_false (by have := of_decide_eq_true this.symm; omega)).symm
  · obtain ⟨m, hm, e⟩ := mem_take_ix ha
    have := k m a e
    rw [decide_eq_false (by omega)] at this
    have h1 : lexLt a x = true := by simpa using this
    rw [lexLt_iff] at h1
    rw [lexLt_false]; omega
  · obtain ⟨m, hm, e⟩ := mem_drop_ix hb
    have := k m b e
    rw [decide_eq_true hm] at this
    simpa using this
theorem Lex.fst {ps : List (Nat × Nat)} (h : Lex ps) : ps.Pairwise fun p q => p.1 ≤ q.1 := h.imp fun {a b} hab => by rw [lexLt_false] at hab; omega
theorem fst_right {ps : List (Nat × Nat)} (h : Lex ps) (c : Nat) : ∃ r, r ≤ ps.length ∧ ∀ m q, ps[m]? = some q → (c < q.1 ↔ r ≤ m) := by
  obtain ⟨r, hr, k⟩ := cut_of (fun q => decide (c < q.1)) ps (h.fst.imp fun {a b} hab ha => by simp at ha ⊢; omega)
  exact ⟨r, hr, fun m q hq => by have := k m q hq; exact decide_eq_decide.mp this⟩
theorem fst_left {ps : List (Nat × Nat)} (h : Lex ps) (c : Nat) : ∃ r, r ≤ ps.length ∧ ∀ m q, ps[m]? = some q → (q.1 < c ↔ m < r) := by
  obtain ⟨r, hr, k⟩ := cut_of (fun q => decide (c ≤ q.1)) ps (h.fst.imp fun {a b} hab ha => by simp at ha ⊢; omega)
  exact ⟨r, hr, fun m q hq => by have := decide_eq_decide.mp (k m q hq); omega⟩
end Mine
end
section
open PySem PySem.W PyProof.Rows PySem.Calls
set_option Elab.async false
set_option linter.unusedVariables false
set_option maxRecDepth 100000
namespace Mine
noncomputable abbrev pairO (p : Nat × Nat) (t1 t2 : Tok) (n : Nat) : Obj := W.listOf #[.int (p.1 : Int) t1, .int (p.2 : Int) t2] n
noncomputable def PairsB (h : Heap) (rs : List Value) (ws : List (Nat × Nat)) : Prop := rs.length = ws.length ∧ ∀ (j : Nat) (p : Nat × Nat), ws[j]? = some p → ∃ a t1 t2 n, rs[j]? = some (.ref a) ∧ h.get? a = some (pairO p t1 t2 n)
noncomputable def PairsL (pl : List (Addr × Obj)) (rs : List Value) (ps : List (Nat × Nat)) : Prop := rs.length = ps.length ∧ ∀ (j : Nat) (p : Nat × Nat), ps[j]? = some p → ∃ a t1 t2 n, rs[j]? = some (.ref a) ∧ (a, pairO p t1 t2 n) ∈ pl
theorem getElem?_insP {α : Type} (l : List α) (k : Nat) (x : α) (hk : k ≤ l.length) (m : Nat) : (l.take k ++ x :: l.drop k)[m]? = if m < k then l[m]? else if m = k then some x else l[m - 1]? := by
  by_cases h1 : m < k
  · rw [if_pos h1, List.getElem?_append_left (by rw [List.length_take]; omega), List.getElem?_take_of_lt h1]
  · rw [if_neg h1, List.getElem?_append_right (by rw [List.length_take]; omega), List.length_take, Nat.min_eq_left hk]
    by_cases h2 : m = k
    · rw [if_pos h2, h2, Nat.sub_self]; rfl
    · rw [if_neg h2]
      obtain ⟨d, hd⟩ : ∃ d, m - k = d + 1 := ⟨m - k - 1, by omega⟩
      rw [hd, List.getElem?_cons_succ, List.getElem?_drop]
      congr 1; omega
theorem PairsL.ins {pl : List (Addr × Obj)} {rs : List Value} {ps : List (Nat × Nat)} (h : PairsL pl rs ps) {r : Nat} (hr : r ≤ ps.length) {a : Addr} {p : Nat × Nat} {t1 t2 : Tok} {n : Nat} :
    PairsL ((a, pairO p t1 t2 n) :: pl) (rs.take r ++ .ref a :: rs.drop r) (ps.take r ++ p :: ps.drop r) := by
  refine ⟨by simp [h.1], fun j q hj => ?_⟩
  rw [getElem?_insP _ _ _ hr] at hj
  rw [getElem?_insP _ _ _ (by rw [h.1]; exact hr)]
  by_cases h1 : j < r
  · rw [if_pos h1] at hj ⊢
    obtain ⟨b, u1, u2, m, e1, e2⟩ := h.2 j q hj
    exact ⟨b, u1, u2, m, e1, .tail _ e2⟩
  · rw [if_neg h1] at hj ⊢
    by_cases h2 : j = r
    · rw [if_pos h2] at hj ⊢; cases hj
      exact ⟨a, t1, t2, n, rfl, .head _⟩
    · rw [if_neg h2] at hj ⊢
      obtain ⟨b, u1, u2, m, e1, e2⟩ := h.2 (j - 1) q hj
      exact ⟨b, u1, u2, m, e1, .tail _ e2⟩
theorem PairsL.at {pl : List (Addr × Obj)} {rs : List Value} {ps : List (Nat × Nat)} (h : PairsL pl rs ps) {j : Nat} {v : Value} (hv : rs[j]? = some v) : ∃ p a t1 t2 n, v = .ref a ∧ ps[j]? = some p ∧ (a, pairO p t1 t2 n) ∈ pl := by
  have hlt := (List.getElem?_eq_some_iff.mp hv).1
  rw [h.1] at hlt
  obtain ⟨a, t1, t2, n, e1, e2⟩ := h.2 j _ (List.getElem?_eq_getElem hlt)
  rw [hv] at e1; cases e1
  exact ⟨_, a, t1, t2, n, rfl, List.getElem?_eq_getElem hlt, e2⟩
theorem PairsB.at {hp : Heap} {rs : List Value} {ps : List (Nat × Nat)} (h : PairsB hp rs ps) {j : Nat} {v : Value} (hv : rs[j]? = some v) : ∃ p a t1 t2 n, v = .ref a ∧ ps[j]? = some p ∧ hp.get? a = some (pairO p t1 t2 n) := by
  have hlt := (List.getElem?_eq_some_iff.mp hv).1
  rw [h.1] at hlt
  obtain ⟨a, t1, t2, n, e1, e2⟩ := h.2 j _ (List.getElem?_eq_getElem hlt)
  rw [hv] at e1; cases e1
  exact ⟨_, a, t1, t2, n, rfl, List.getElem?_eq_getElem hlt, e2⟩
theorem ltAt_pairs {prog : Program} {w : World} {s : Shared} {a b : Addr} {p q : Nat × Nat} {t1 t2 u1 u2 : Tok} {n m : Nat} (ha : s.heap.get? a = some (pairO p t1 t2 n)) (hb : s.heap.get? b = some (pairO q u1 u2 m)) : LtAt prog w s (.ref a) (.ref b) (lexLt p q) := by
  intro A s' Q E hA hk k
  refine lt_lists (vs := [.int (p.1 : Int) t1, .int (p.2 : Int) t2]) (us := [.int (q.1 : Int) u1, .int (q.2 : Int) u2]) (as := atoms2 p) (bs := atoms2 q) (.int (.int .nil)) (.int (.int .nil)) (row_lex p q).2 (hk _ _ ha) (hk _ _ hb) hA ?_
  rw [(row_lex p q).1]; exact k
theorem ltAt_ints {prog : Program} {w : World} {s : Shared} {x y : Int} {t u : Tok} : LtAt prog w s (.int x t) (.int y u) (decide (x < y)) := by
  intro A s' Q E hA hk k
  k_steps
  exact k
theorem allLt_mem {d : Nat} : ∀ {l : List (Addr × Obj)}, AllLt d l → ∀ {p : Addr × Obj}, p ∈ l → @LT.lt Nat _ p.1 d
  | [], _, _, hp => by cases hp
  | q :: r, h, p, hp => (List.mem_cons.mp hp).elim (fun e => e ▸ h.1) fun hp => allLt_mem h.2 hp
theorem nw_cons {h₀ h : Heap} {L : Addr} {p : Addr × Obj} {news rest : List (Addr × Obj)} (N : News h₀ L h news) (a : p ∈ news) (r : News h₀ L h rest) : News h₀ L h (p :: rest) := fun q hq =>
  (List.mem_cons.mp hq).elim (fun e => e ▸ N p a) (r q)
theorem nw_nil {h₀ h : Heap} {L : Addr} : News h₀ L h [] := fun _ h => by cases h
theorem perm_next {f : Nat × Nat → Nat × Nat} {ws ps : List (Nat × Nat)} {i r : Nat} {p : Nat × Nat} (h : ps.Perm ((ws.take i).map f)) (hp : ws[i]? = some p) : (ps.take r ++ f p :: ps.drop r).Perm ((ws.take (i + 1)).map f) := by
  refine (perm_ins ps r (f p)).trans ?_
  rw [List.take_add_one, hp]
  simp only [Option.toList_some, List.map_append, List.map_cons, List.map_nil]
  exact (List.Perm.cons _ h).trans (List.perm_append_comm (l₁ := [f p]))
/-- the ints of a list of naturals -/
noncomputable abbrev zs (l : List Nat) : List Int := l.map fun (n : Nat) => (n : Int)
theorem ints_look {ws : List Value} {xs : List Int} (h : IntsAre ws xs) : ∀ {i : Nat} {v : Value} {x : Int}, ws[i]? = some v → xs[i]? = some x → ∃ t, v = .int x t := by
  induction h with
  | nil => intro i v x h; simp at h
  | cons n t _ ih => intro i v x h k; cases i with
    | zero => simp at h k; subst h; subst k; exact ⟨t, rfl⟩
    | succ i => simp only [List.getElem?_cons_succ] at h k; exact ih h k
theorem item_last {prog : Program} {w : World} {A : PySem.Around} {E : Value → Shared → Prop} {s : Shared} {l : Addr} {vs : List Value} {v : Value} {u : Tok} {x : Str} {px : Pos} {slice : PySem.Expr} {Q : Value → Shared → Prop} (hl : s.heap.IsList l (vs ++ [v]).toArray) (hlen : vs.length ≤ 100000) (h : Q v s)
    (hs : subscripted slice false (.ref l) (.int (-1) u) = operate [.ref l, .int (-1) u] (getItem (.ref l) (.int (-1) u)) := by with_unfolding_all rfl) :
    wpAny (model prog w) A (subscriptTail (.Name x px) slice (.ref l) (.int (-1) u)) Q E s := by
  refine subscriptTail_builtin hl.typeIs slot_list_getitem.lookup (wpAny_getItem_list_neg hl (by omega) (by rw [List.size_toArray, List.length_append, List.length_singleton]; omega) (by omega) ?_ h) hs (by intro _; rfl)
  rw [List.size_toArray, List.length_append, List.length_singleton, show ((-1 : Int) + ((vs.length + 1 : Nat) : Int)).toNat = vs.length by omega]
  simp
theorem zs_at {l : List Nat} {j x : Nat} (h : l[j]? = some x) : (zs l)[j]? = some (x : Int) := by
  unfold zs; rw [List.getElem?_map, h]; rfl
theorem ltAt_right {prog : Program} {w : World} {s : Shared} {bv : List Value} {l : List Nat} (hbv : IntsAre bv (zs l)) {c : Nat} {tc : Tok} {r j : Nat} {v : Value} (hv : bv[j]? = some v) (h : ∀ x, l[j]? = some x → (c < x ↔ r ≤ j)) : LtAt prog w s (.int (c : Int) tc) v (decide (r ≤ j)) := by
  have hj := (List.getElem?_eq_some_iff.mp hv).1
  have hl : bv.length = l.length := by rw [hbv.length, List.length_map]
  obtain ⟨x, hx⟩ : ∃ x, l[j]? = some x := ⟨_, List.getElem?_eq_getElem (by omega)⟩
  obtain ⟨t, rfl⟩ := ints_look hbv hv (zs_at hx)
  have e : decide (r ≤ j) = decide ((c : Int) < (x : Int)) := decide_eq_decide.mpr (by have := h x hx; omega)
  rw [e]; exact ltAt_ints
theorem ltAt_left {prog : Program} {w : World} {s : Shared} {bv : List Value} {l : List Nat} (hbv : IntsAre bv (zs l)) {c : Nat} {tc : Tok} {r j : Nat} {v : Value} (hv : bv[j]? = some v) (h : ∀ x, l[j]? = some x → (x < c ↔ j < r)) : LtAt prog w s v (.int (c : Int) tc) (decide (j < r)) := by
  have hj := (List.getElem?_eq_some_iff.mp hv).1
  have hl : bv.length = l.length := by rw [hbv.length, List.length_map]
  obtain ⟨x, hx⟩ : ∃ x, l[j]? = some x := ⟨_, List.getElem?_eq_getElem (by omega)⟩
  obtain ⟨t, rfl⟩ := ints_look hbv hv (zs_at hx)
  have e : decide (j < r) = decide ((x : Int) < (c : Int)) := decide_eq_decide.mpr (by have := h x hx; omega)
  rw [e]; exact ltAt_ints
theorem map_at {α β : Type} {f : α → β} {l : List α} {j : Nat} {y : β} (h : (l.map f)[j]? = some y) : ∃ x, l[j]? = some x ∧ y = f x := by
  rw [List.getElem?_map] at h
  cases e : l[j]? with
  | none => rw [e] at h; cases h
  | some x => rw [e] at h; cases h; exact ⟨x, rfl, rfl⟩
theorem item_lastAt {prog : Program} {w : World} {A : PySem.Around} {E : Value → Shared → Prop} {s : Shared} {l : Addr} {vs : List Value} {v : Value} {k : Nat} {u : Tok} {x : Str} {px : Pos} {slice : PySem.Expr} {Q : Value → Shared → Prop} (hl : s.heap.IsList l vs.toArray) (hk : vs.length = k + 1) (hlen : k ≤ 100000) (hv : vs[k]? = some v) (h : Q v s)
    (hs : subscripted slice false (.ref l) (.int (-1) u) = operate [.ref l, .int (-1) u] (getItem (.ref l) (.int (-1) u)) := by with_unfolding_all rfl) :
    wpAny (model prog w) A (subscriptTail (.Name x px) slice (.ref l) (.int (-1) u)) Q E s := by
  refine subscriptTail_builtin hl.typeIs slot_list_getitem.lookup (wpAny_getItem_list_neg hl (by omega) (by rw [List.size_toArray, hk]; omega) (by omega) ?_ h) hs (by intro _; rfl)
  rw [List.size_toArray, hk, show ((-1 : Int) + ((k + 1 : Nat) : Int)).toNat = k by omega]
  simpa using hv
theorem ints_of {vs : List Value} {l : List Nat} (h : IntsAre vs (zs l)) {j x : Nat} (hx : l[j]? = some x) : ∃ t, vs[j]? = some (.int (x : Int) t) := by
  have hj := (List.getElem?_eq_some_iff.mp hx).1
  have hl : vs.length = l.length := by rw [h.length, List.length_map]
  obtain ⟨v, hv⟩ : ∃ v, vs[j]? = some v := ⟨_, List.getElem?_eq_getElem (by omega)⟩
  obtain ⟨t, rfl⟩ := ints_look h hv (zs_at hx)
  exact ⟨t, hv⟩
end Mine
end
section
open PySem PySem.W PyProof.Rows PySem.Calls
set_option Elab.async false
set_option linter.unusedVariables false
set_option maxRecDepth 100000
namespace Mine
open LCg (NsObj lst Off3 Off1 CompEnd FinE FinA)
section
variable {prog : Program} {w : World} {A : PySem.Around} {s₁ : Shared} {h₀ : Heap} {L : Addr} {m : Str → Option Value} {env : Env} {scope : Scope} {cl : List (Str × Addr)} {Fin : Shared → List Value → List (Addr × Obj) → Prop} {news : List (Addr × Obj)}
structure PairsAt (h₀ : Heap) (L : Addr) (m : Str → Option Value) (news : List (Addr × Obj)) (rr : List Value) (ps : List (Nat × Nat)) : Prop where
  len : rr.length = ps.length
  at' : ∀ h, Fr h₀ L h m → News h₀ L h news → ∀ (j : Nat) v, rr[j]? = some v → ∃ p a t1 t2 n, v = .ref a ∧ ps[j]? = some p ∧ h.get? a = some (pairO p t1 t2 n)
theorem PairsAt.drop {rr : List Value} {ps : List (Nat × Nat)} (h : PairsAt h₀ L m news rr ps) (k : Nat) : PairsAt h₀ L m news (rr.drop k) (ps.drop k) := by
  refine ⟨by simp [h.len], fun g F N j v hv => ?_⟩
  rw [List.getElem?_drop] at hv ⊢
  exact h.at' g F N (k + j) v hv
theorem PairsAt.take {rr : List Value} {ps : List (Nat × Nat)} (h : PairsAt h₀ L m news rr ps) (k : Nat) : PairsAt h₀ L m news (rr.take k) (ps.take k) := by
  refine ⟨by simp [h.len], fun g F N j v hv => ?_⟩
  rw [List.getElem?_take] at hv ⊢
  split at hv
  · rw [if_pos (by assumption)]; exact h.at' g F N j v hv
  · cases hv
theorem PairsAt.of_L {pl : List (Addr × Obj)} {rr : List Value} {ps : List (Nat × Nat)} (h : PairsL pl rr ps) (hs : ∀ p ∈ pl, p ∈ news) : PairsAt h₀ L m news rr ps := by
  refine ⟨h.1, fun g F N j v hv => ?_⟩
  obtain ⟨p, a, t1, t2, n, e1, e2, e3⟩ := h.at hv
  exact ⟨p, a, t1, t2, n, e1, e2, (N _ (hs _ e3)).1⟩
theorem ints_snoc {vs : List Value} {l : List Nat} {x : Nat} {t : Tok} (h : IntsAre vs (zs l)) : IntsAre (vs ++ [.int (x : Int) t]) (zs (l ++ [x])) := by
  unfold zs
  rw [List.map_append]
  exact h.append (.cons _ _ .nil)
/-- the parts of the pairs of a list, in a comprehension -/
theorem comp_pr {x x₂ : Str} {px px₂ tp py : Pos} {tk₀} {ax : Addr} {rr : List Value} {ps : List (Nat × Nat)} (b : Bool) {y : Str} (hy : y = if b = true then x else x₂) (hh : A.handled = none) (F : Fr h₀ L s₁.heap m) (N : News h₀ L s₁.heap news) (hS : LCg.SrcAt h₀ ax rr.toArray news) (hp : PairsAt h₀ L m news rr ps) (hlen : ps.length ≤ 1000)
    (fin : ∀ g ys, IntsAre ys (zs (ps.map fun p => if b = true then p.1 else p.2)) → Fin { s₁ with heap := g } ys news)
    (hxx : x ≠ x₂ := by decide) (hkind : scope.kind = .function := by rfl) (hx : scope.names.lookup x = some .local := by rfl) (hx₂ : scope.names.lookup x₂ = some .local := by rfl) (hd : (x == ("__debug__" : Str)) = false := by decide) (hd₂ : (x₂ == ("__debug__" : Str)) = false := by decide) :
    CSrc prog w A h₀ L m env (.Name y py) (.Tuple [.Name x px, .Name x₂ px₂] tk₀ tp) [] scope cl Fin (.ref ax) s₁ := by
  refine CSrc.pair (n := rr.length) (P := fun i v => rr[i]? = some v) (S := fun nx => LCg.SrcAt h₀ ax rr.toArray nx) (J := fun i ys nx => nx = news ∧ IntsAre ys (zs ((ps.take i).map fun p => if b = true then p.1 else p.2))) (fun i u e => ∃ (p : Nat × Nat) (t1 t2 : Tok), ps[i]? = some p ∧ u = .int (p.1 : Int) t1 ∧ e = .int (p.2 : Int) t2)
    (Src.list hh (hS.list F.keep N)) (by rw [hp.len, sizeLine_eq]; omega) hh F N ?_ ⟨rfl, .nil⟩ ?_ ?_ ?_ hxx hkind hx hx₂
  · rintro i ys nx ⟨rfl, _⟩; exact hS
  · rintro i v ys nx h hi hP ⟨rfl, _⟩ F' N'
    obtain ⟨p, a, t1, t2, n, rfl, hp1, ha⟩ := hp.at' h F' N' i v hP
    exact ⟨a, _, _, rfl, .inl ⟨_, ha, rfl, _, rfl⟩, p, t1, t2, hp1, rfl, rfl⟩
  · intro g
    refine CTurn.none ?_
    rintro i v ys nx I oI C oC D m₂ h tk E' hi hP ⟨rfl, hys⟩ ⟨_, _, ⟨p, t1, t2, hpi, rfl, rfl⟩, hm1, hm2⟩ hC F' N' off ne
    have hnext : ∀ t, IntsAre (ys ++ [.int ((if b = true then p.1 else p.2 : Nat) : Int) t]) (zs ((ps.take (i + 1)).map fun p => if b = true then p.1 else p.2)) := by
      intro t
      rw [List.take_add_one, hpi, Option.toList_some, List.map_append]
      exact ints_snoc hys
    cases b with
    | true =>
      rw [if_pos rfl] at hy; subst hy
      refine LCgL.ld_own N' (.tail _ (.head _)) hC hm1 ?_ hkind (lookup_relabel_local hx) hd
      exact ⟨h, tk, nx, rfl, F', N', off, trivial, rfl, hnext t1⟩
    | false =>
      rw [if_neg Bool.false_ne_true] at hy; subst hy
      refine LCgL.ld_own N' (.tail _ (.head _)) hC hm2 ?_ hkind (lookup_relabel_local hx₂) hd₂
      exact ⟨h, tk, nx, rfl, F', N', off, trivial, rfl, hnext t2⟩
  · rintro g ys nx ⟨rfl, hys⟩
    rw [hp.len, List.take_length] at hys
    exact fin g ys hys
end
end Mine
end
section
open PySem PySem.W PyProof.Rows PySem.Calls
set_option Elab.async false
set_option linter.unusedVariables false
set_option maxRecDepth 100000
namespace Mine
section
variable {K : Frag} {prog : Program} {w : World} {A : PySem.Around} {s : Shared} {R : Result → Shared → Prop} {hb : Heap}
/-- a def with cells -/
theorem call_AC {name qual : Str} {params : Arguments} {body : List Stmt} {scope : Scope} {dV kV doc pm cdv ct oc : Value} {an od : Option Addr} {osl : Array (Option Value)} {f : Addr} {args : Args} {binds : List (Str × Value)}
    (hk0 : ∀ b o, hb.get? b = some o → s.heap.get? b = some o) (X : K.In hb) (hlim : hb.NoLimit)
    (ho : K.lookup f = some ⟨oc, od, .func (fnOf name qual params body scope dV kV doc pm an cdv ct), osl⟩) (hcd : codeIn K cdv qual = true) (hroom : A.depth < recursionLimit)
    (hbind : BindsTo s (fnOf name qual params body scope dV kV doc pm an cdv ct) args binds)
    (hkind : ∀ n, ∀ x ∈ binds, scope.names.lookup x.1 = some .local ∨ (scope.names.lookup x.1 = some .cell ∧ ((cellsFrom n scope.names []).lookup x.1).isSome = true))
    (hnd : ((cellsFrom 0 scope.names []).map (·.1)).Nodup)
    (h : ∀ L h₁ tk cells, Fr s.heap L h₁ (bindL (envOfC qual scope L f cdv).kindOf binds fun _ => none) → News s.heap L h₁ cells → CellsAre (bindC (envOfC qual scope L f cdv).kindOf binds fun _ => none) (cellsFrom (L + 1) scope.names []) cells →
      wpAny (model prog w) (A.deeper (envOfC qual scope L f cdv)) (execs body (envOfC qual scope L f cdv)) (fun fl s' => R (.ok (.ret (retOf fl))) s') NoE { s with heap := h₁, toks := tk })
    (hco : scope.isCoroutine = false := by rfl) (hgen : scope.isGenerator = false := by rfl) (hk : scope.kind = .function := by rfl) : codeAny (model prog w) A (.call (.ref f) args) R s := by
  have Xs := X.keeps hk0
  refine codeAny_call_function hroom (Xs _ _ ho) rfl hco hgen rfl (codeRec_of Xs hcd) (hbind _ _ _ _ ?_)
  refine wpAny_newFunctionEnv_cells hk (hkind _) fun env' he s' x => ?_
  subst he
  refine ⟨(hlim.keeps hk0).keeps x.toInCall.keep, codeAny_func ?_⟩
  obtain ⟨h₁, tk, rfl, _⟩ := x.done
  have hk₁ := x.toInCall.keep
  obtain ⟨cells, NC, Y⟩ := Cl.news (h₀ := s.heap) (Nat.le_refl _) fun n c hm => ⟨x.cell n c (lookup_of_mem_nodup (cellsFrom_names scope.names 0 (s.heap.objs.size + 1) [] [] rfl ▸ hnd) hm), x.above n c hm⟩
  exact wpAny_mono (h _ h₁ tk cells ⟨x.toInCall.ns, fun b o e => hk₁ b o e, Nat.le_refl _⟩ NC Y) (fun fl s' q => q) fun _ _ q => q.elim
end
end Mine
end
section
open PySem PySem.W PyProof.Rows PySem.Calls
set_option Elab.async false
set_option linter.unusedVariables false
set_option maxRecDepth 100000
namespace Mine
section
variable {h₀ hb h : Heap} {outer : List Env} {frs news : List (Addr × Obj)} {L a : Addr} {m : Str → Option Value} {name : Str} {scope : Scope} {cd : Value}
/-- at a call from a body: its own frame is one more on the stack -/
theorem bs_ofC (hb0 : ∀ b o, h₀.get? b = some o → hb.get? b = some o) (F : Fr hb L h m) (N : News hb L h (news ++ frs)) (Fs : TI.Frs outer frs) (hk : scope.kind = .function := by rfl) :
    ∃ oL, Bs h₀ (envOfC name scope L a cd :: outer) ((L, oL) :: frs) h ∧ (∀ (h' : Heap) sl, h'.get? L = some { oL with slots := sl } → h'.Ns L m) := by
  obtain ⟨oL, es, ep, hL, hLd, hLk, hLf⟩ := F.ns
  have none0 : ∀ b, hb.get? b = none → h₀.get? b = none := fun b e => by
    cases q : h₀.get? b with
    | none => rfl
    | some o => rw [hb0 b o q] at e; cases e
  refine ⟨oL, ⟨fun b o e => F.keep b o (hb0 b o e), ⟨by show scope.kind ≠ .module; rw [hk]; decide, rfl, ⟨es, ep, hLd⟩, Fs⟩, fun p hp => ?_, fun p hp => ?_⟩, fun h' sl e => ⟨_, es, ep, e, hLd, hLk, hLf⟩⟩
  · rcases List.mem_cons.mp hp with rfl | hp
    · exact hL
    · exact (N p (List.mem_append_right _ hp)).1
  · rcases List.mem_cons.mp hp with rfl | hp
    · exact none0 _ (Heap.get?_none_of_le F.above)
    · exact none0 _ (N p (List.mem_append_right _ hp)).2.2

end
section
variable {prog : Program} {w : World} {A : PySem.Around} {E : Value → Shared → Prop} {s : Shared} {h₀ hb : Heap} {outer : List Env} {frs news : List (Addr × Obj)} {L g : Addr} {m : Str → Option Value} {name : Str} {scope : Scope} {cd : Value}
  {f : Value} {pos : List Value} {kw : List (Str × Value)} {Q : Value → Shared → Prop} {a : Addr} {o : Obj}
theorem at_CC (P : Value → Heap → Prop) (hb0 : ∀ b o, h₀.get? b = some o → hb.get? b = some o) (F : Fr hb L s.heap m) (N : News hb L s.heap (news ++ frs)) (Fs : TI.Frs outer frs) (hap : ∀ p ∈ news, p.1 ∉ frA frs) (hA : A.frames = some outer)
    (h : ∀ oL, Bs h₀ (envOfC name scope L g cd :: outer) ((L, oL) :: frs) s.heap → (A.deeper (envOfC name scope L g cd)).frames = some (envOfC name scope L g cd :: outer) →
      codeC (model prog w) (A.deeper (envOfC name scope L g cd)) (.call f ⟨pos, kw⟩) (fun r s' => ∃ v h' tk' frs₂, r = .ok (.ret v) ∧ s' = { s with heap := h', toks := tk' } ∧ Kx ((L, oL) :: frs) frs₂ s.heap h' ∧ P v h') s)
    (k : ∀ v h' tk' frs', TI.SameUp frs frs' → TI.Frs outer frs' → frA frs' = frA frs → Fr hb L h' m → News hb L h' (news ++ frs') → P v h' → Q v { s with heap := h', toks := tk' })
    (hk : scope.kind = .function := by rfl) : wpC (model prog w) (A.deeper (envOfC name scope L g cd)) (call f pos kw) Q E s := by
  obtain ⟨oL, B', ns⟩ := bs_ofC (h₀ := h₀) (name := name) (scope := scope) (a := g) (cd := cd) hb0 F N Fs hk
  refine wpC_call (codeC_mono (h oL B' (by simp [Around.deeper, hA])) fun r s' h' => ?_)
  obtain ⟨v, h2, tk2, frs₂, rfl, rfl, K, p⟩ := h'
  obtain ⟨frs5, SU5, Fs5, ea5, F5, N5, keep5⟩ := back_of F N Fs hap ns K
  exact k v h2 tk2 frs5 SU5 Fs5 ea5 F5 N5 p

theorem at_CyC {vs : List Value} {n : Nat} (P : Value → List Value → Prop) (hb0 : ∀ b o, h₀.get? b = some o → hb.get? b = some o) (F : Fr hb L s.heap m) (N : News hb L s.heap ((a, W.listOf vs.toArray n) :: (news ++ frs))) (Fs : TI.Frs outer frs) (hap : ∀ p ∈ (a, W.listOf vs.toArray n) :: news, p.1 ∉ frA frs)
    (hna : ∀ p ∈ news, p.1 ≠ a) (hA : A.frames = some outer)
    (h : ∀ oL, Bs h₀ (envOfC name scope L g cd :: outer) ((L, oL) :: frs) s.heap → a ∉ frA ((L, oL) :: frs) → (A.deeper (envOfC name scope L g cd)).frames = some (envOfC name scope L g cd :: outer) →
      codeC (model prog w) (A.deeper (envOfC name scope L g cd)) (.call f ⟨pos, kw⟩) (fun r s' => ∃ v h' tk' frs₂ vs' n', r = .ok (.ret v) ∧ s' = { s with heap := h', toks := tk' } ∧ Ky a ((L, oL) :: frs) frs₂ s.heap h' ∧ h'.get? a = some (W.listOf (List.toArray vs') n') ∧ P v vs') s)
    (k : ∀ v h' tk' frs' vs' n', TI.SameUp frs frs' → TI.Frs outer frs' → frA frs' = frA frs → Fr hb L h' m → News hb L h' ((a, W.listOf (List.toArray vs') n') :: (news ++ frs')) → P v vs' → Q v { s with heap := h', toks := tk' })
    (hk : scope.kind = .function := by rfl) : wpC (model prog w) (A.deeper (envOfC name scope L g cd)) (call f pos kw) Q E s := by
  have N' : News hb L s.heap (news ++ frs) := fun p hp => N p (.tail _ hp)
  obtain ⟨oL, B', ns⟩ := bs_ofC (h₀ := h₀) (name := name) (scope := scope) (a := g) (cd := cd) hb0 F N' Fs hk
  have haL : a ≠ L := (N _ (.head _)).2.1
  have ha0 : hb.get? a = none := (N _ (.head _)).2.2
  have haf : a ∉ frA frs := hap _ (.head _)
  refine wpC_call (codeC_mono (h oL B' (fun hm => (List.mem_cons.mp hm).elim haL haf) (by simp [Around.deeper, hA])) fun r s' h' => ?_)
  obtain ⟨v, h2, tk2, frs₂, vs', n', rfl, rfl, ⟨up, there, keep⟩, hgot, p⟩ := h'
  cases frs₂ with
  | nil => exact up.elim
  | cons q frs' =>
    obtain ⟨e1, ⟨sl, e2⟩, up⟩ := up
    have hL : h2.get? L = some { oL with slots := sl } := by
      have := there q (.head _)
      rw [show q.1 = L from e1, e2] at this; exact this
    have ea := sameUp_addr up
    have keep' : ∀ b o, b ≠ L → b ∉ frA frs → b ≠ a → s.heap.get? b = some o → h2.get? b = some o := fun b o b1 b2 b3 e => keep b o (fun hm => (List.mem_cons.mp hm).elim b1 b2) b3 e
    refine k v h2 tk2 frs' vs' n' up (Fs.up up) ea ⟨ns h2 sl hL, fun b o e => keep' b o (Nat.ne_of_lt (Nat.lt_of_lt_of_le (Heap.lt_size e) F.above)) (fun hm => ?_) (fun q => ?_) (F.keep b o e), F.above⟩ (fun p hp => ?_) p
    · obtain ⟨p, hp, rfl⟩ := List.mem_map.mp hm
      rw [(N' p (List.mem_append_right _ hp)).2.2] at e; cases e
    · rw [q, ha0] at e; cases e
    · rcases List.mem_cons.mp hp with rfl | hp
      · exact ⟨hgot, haL, ha0⟩
      · rcases List.mem_append.mp hp with hp | hp
        · have n := N' p (List.mem_append_left _ hp)
          exact ⟨keep' _ _ n.2.1 (hap p (.tail _ hp)) (hna p hp) n.1, n.2⟩
        · have : p.1 ∈ frA frs := by rw [← ea]; exact List.mem_map.mpr ⟨p, hp, rfl⟩
          obtain ⟨x, hx, e⟩ := List.mem_map.mp this
          have n := N' x (List.mem_append_right _ hx)
          exact ⟨there p (.tail _ hp), by rw [← e]; exact n.2.1, by rw [← e]; exact n.2.2⟩

end
theorem cv_atC {w : World} {mg mb : Str → Option Value} {A : PySem.Around} {E : Value → Shared → Prop} {s : Shared} {h₀ hb : Heap} {outer : List Env} {frs news : List (Addr × Obj)} {L g : Addr} {m : Str → Option Value} {name : Str} {scope : Scope} {cd : Value}
    {x : Str} {tk : Tok} {Q : Value → Shared → Prop}
    (G : Gd w mg mb h₀) (hb0 : ∀ b o, h₀.get? b = some o → hb.get? b = some o) (F : Fr hb L s.heap m) (N : News hb L s.heap (news ++ frs)) (Fs : TI.Frs outer frs) (hap : ∀ p ∈ news, p.1 ∉ frA frs) (hA : A.frames = some outer)
    (hroom : A.depth + 11 < recursionLimit) (hh : A.handled = none) (hx : LabOk x)
    (k : ∀ h' tk' frs' a vs n, TI.SameUp frs frs' → TI.Frs outer frs' → frA frs' = frA frs → Fr hb L h' m → News hb L h' ((a, W.listOf (List.toArray vs) n) :: (news ++ frs')) → (∀ p ∈ news ++ frs', p.1 ≠ a) → AV vs (keyOf x) → Q (.ref a) { s with heap := h', toks := tk' })
    (hk : scope.kind = .function := by rfl) :
    wpC (model Challenge.rw_ph0088_02.row.prog w) (A.deeper (envOfC name scope L g cd)) (call (.ref 80) [.str x tk]) Q E s := by
  refine at_CC (h₀ := h₀) (fun v h' => ∃ a vs n, v = .ref a ∧ h'.get? a = some (W.listOf (List.toArray vs) n) ∧ s.heap.get? a = none ∧ AV vs (keyOf x)) hb0 F N Fs hap hA (fun oL B' hA' => ?_) ?_ hk
  · refine cv_spec G B' hA' (deeper_room hroom) hh hx.size hx.ok ?_
    intro h' tk' frs' a vs n K ha hn hav
    exact ⟨_, h', tk', frs', rfl, rfl, K, a, vs, n, rfl, ha, hn, hav⟩
  · rintro v h' tk' frs' SU Fs' ea F' N' ⟨a, vs, n, rfl, ha, hn, hav⟩
    refine k h' tk' frs' a vs n SU Fs' ea F' ?_ ?_ hav
    · intro p hp
      rcases List.mem_cons.mp hp with rfl | hp
      · refine ⟨ha, ?_, ?_⟩
        · rintro rfl
          obtain ⟨oL, _, _, hL, _⟩ := F.ns
          rw [hL] at hn; cases hn
        · cases q : hb.get? a with
          | none => rfl
          | some o => rw [F.keep a o q] at hn; cases hn
      · exact N' p hp
    · intro p hp e
      rcases List.mem_append.mp hp with hp | hp
      · have := (N p (List.mem_append_left _ hp)).1
        rw [e, hn] at this; cases this
      · have : p.1 ∈ frA frs := by rw [← ea]; exact List.mem_map.mpr ⟨p, hp, rfl⟩
        obtain ⟨q, hq, e'⟩ := List.mem_map.mp this
        have := (N q (List.mem_append_right _ hq)).1
        rw [show q.1 = p.1 from e', e, hn] at this; cases this

section
variable {K : Frag} {prog : Program} {w : World} {A : PySem.Around} {s : Shared} {R : Result → Shared → Prop} {hb : Heap}
/-- a def with cells, under the caller -/
theorem call_CC {name qual : Str} {params : Arguments} {body : List Stmt} {scope : Scope} {dV kV doc pm cdv ct oc : Value} {an od : Option Addr} {osl : Array (Option Value)} {f : Addr} {args : Args} {binds : List (Str × Value)}
    (hk0 : ∀ b o, hb.get? b = some o → s.heap.get? b = some o) (X : K.In hb) (hlim : hb.NoLimit)
    (ho : K.lookup f = some ⟨oc, od, .func (fnOf name qual params body scope dV kV doc pm an cdv ct), osl⟩) (hcd : codeIn K cdv qual = true) (hroom : A.depth < recursionLimit)
    (hbind : BindsTo s (fnOf name qual params body scope dV kV doc pm an cdv ct) args binds)
    (hkind : ∀ n, ∀ x ∈ binds, scope.names.lookup x.1 = some .local ∨ (scope.names.lookup x.1 = some .cell ∧ ((cellsFrom n scope.names []).lookup x.1).isSome = true))
    (hnd : ((cellsFrom 0 scope.names []).map (·.1)).Nodup)
    (h : ∀ L h₁ tk cells, Fr s.heap L h₁ (bindL (envOfC qual scope L f cdv).kindOf binds fun _ => none) → News s.heap L h₁ cells → CellsAre (bindC (envOfC qual scope L f cdv).kindOf binds fun _ => none) (cellsFrom (L + 1) scope.names []) cells →
      wpC (model prog w) (A.deeper (envOfC qual scope L f cdv)) (execs body (envOfC qual scope L f cdv)) (fun fl s' => R (.ok (.ret (retOf fl))) s') NoE { s with heap := h₁, toks := tk })
    (hco : scope.isCoroutine = false := by rfl) (hgen : scope.isGenerator = false := by rfl) (hk : scope.kind = .function := by rfl) : codeC (model prog w) A (.call (.ref f) args) R s := by
  have Xs := X.keeps hk0
  refine codeC_call_function hroom (Xs _ _ ho) rfl hco hgen rfl (codeRec_of Xs hcd) (hbind _ _ _ _ ?_)
  refine wpAny_newFunctionEnv_cells hk (hkind _) fun env' he s' x => ?_
  subst he
  refine ⟨(hlim.keeps hk0).keeps x.toInCall.keep, codeC_func ?_⟩
  obtain ⟨h₁, tk, rfl, _⟩ := x.done
  have hk₁ := x.toInCall.keep
  obtain ⟨cells, NC, Y⟩ := Cl.news (h₀ := s.heap) (Nat.le_refl _) fun n c hm => ⟨x.cell n c (lookup_of_mem_nodup (cellsFrom_names scope.names 0 (s.heap.objs.size + 1) [] [] rfl ▸ hnd) hm), x.above n c hm⟩
  exact h _ h₁ tk cells ⟨x.toInCall.ns, fun b o e => hk₁ b o e, Nat.le_refl _⟩ NC Y
end
end Mine
end
section
open PySem PySem.W PyProof.Rows PySem.Calls
set_option Elab.async false
set_option linter.unusedVariables false
set_option maxRecDepth 100000
namespace Mine

set_option maxHeartbeats 8000000 in
theorem bl2_spec {w : World} {mg mb : Str → Option Value} {A : PySem.Around} {s : Shared} {R : Result → Shared → Prop} {h₀ : Heap} {outer : List Env} {frs : List (Addr × Obj)}
    {a x : Addr} {vs us : List Value} {n n' : Nat} {ls : List Str} {ks : List Atom} {r : Nat}
    (G : Gd w mg mb h₀) (B : Bs h₀ outer frs s.heap) (hA : A.frames = some outer) (hroom : A.depth + 20 < recursionLimit) (hu : A.units + 100 < cLine) (hh : A.handled = none)
    (ha : s.heap.get? a = some (W.listOf vs.toArray n)) (hvs : SV vs ls) (hx : s.heap.get? x = some (W.listOf us.toArray n')) (hus : AV us ks) (hok : ∀ l ∈ ls, LabOk l)
    (haf : a ∉ frA frs) (hxf : x ∉ frA frs)
    (hrh : r ≤ ls.length) (hlen : ls.length ≤ 1000)
    (hcmp : ∀ m l, 0 ≤ m → m < ls.length → ls[m]? = some l → Comp (keyOf l) ks ∧ rowLt (keyOf l) ks = decide (m < r))
    (k : ∀ h' tk' frs' t, Kx frs frs' s.heap h' → R (.ok (.ret (.int (r : Int) t))) { s with heap := h', toks := tk' }) :
    codeC (model Challenge.rw_ph0088_02.row.prog w) A (.call (.ref 67) ⟨[.ref a, .ref x], [(Str.ofString "key", .ref 80)]⟩) R s := by
  have X := (G.keeps B.base).X
  have T := (G.keeps B.base).T
  have habase := (TI.gone_get haf).trans ha
  revert X; k_fill; intro X
  refine call_C (K := hd.heap_39 w.params) (binds := [(Str.ofString "a", .ref a), (Str.ofString "x", .ref x), (Str.ofString "lo", .int 0 324), (Str.ofString "hi", .none), (Str.ofString "key", .ref 80)]) B G.X G.T.nolimit rfl rfl (by omega) ?bind rfl (fun L h₁ F N => ?_)
  case bind => exact binds_K (G.keeps B.stay).X rfl rfl rfl rfl rfl
  refine wpC_execs_any ?_
  k_steps
  try dsimp only
  refine wpC_execs_any ?_
  k_steps
  try dsimp only
  have habase1 := F.keep a _ habase
  have esz : vs.toArray.size = ls.length := by rw [List.size_toArray, hvs.length]
  refine Calls.call_len_list ⟨_, habase1, rfl, _, rfl⟩ (by rw [esz]; exact nat63 hlen) ?_
  rw [esz]
  k_steps
  try dsimp only
  rename Fr _ _ _ _ => F
  rename News _ _ _ _ => N
  refine wpC_execs_cons (wpC_If (wpC_of_any ?_))
  k_steps
  refine wpC_execs_cons (wpC_While ?_)
  refine codeC_whileLoop (fun d s' => ∃ h tk m' frs' lo' hi' t1 t2, s' = { s with heap := h, toks := tk } ∧ Fr (bas s.heap frs) L h m' ∧ News (bas s.heap frs) L h frs' ∧ TI.SameUp frs frs' ∧ TI.Frs outer frs' ∧
    m' (Str.ofString "a") = some (.ref a) ∧ m' (Str.ofString "x") = some (.ref x) ∧ m' (Str.ofString "key") = some (.ref 80) ∧ m' (Str.ofString "lo") = some (.int ((lo' : Nat) : Int) t1) ∧ m' (Str.ofString "hi") = some (.int ((hi' : Nat) : Int) t2) ∧
    0 ≤ lo' ∧ lo' ≤ r ∧ r ≤ hi' ∧ hi' ≤ ls.length ∧ d = hi' - lo') ?_ (ls.length - 0) ⟨_, _, _, frs, 0, ls.length, _, _, rfl, F, N, TI.SameUp.refl _, B.isf, rfl, rfl, rfl, rfl, rfl, Nat.le_refl _, Nat.zero_le _, hrh, Nat.le_refl _, rfl⟩
  clear F N
  rintro d s' ⟨h, tk, m', frs', lo', hi', t1, t2, rfl, F, N, SU, Fs, ma, mx, mk, ml, mh, e1, e2, e3, e4, rfl⟩
  have F' := pins F [(Str.ofString "a", .ref a), (Str.ofString "x", .ref x), (Str.ofString "key", .ref 80), (Str.ofString "lo", .int ((lo' : Nat) : Int) t1), (Str.ofString "hi", .int ((hi' : Nat) : Int) t2)] ⟨ma, mx, mk, ml, mh, trivial⟩
  clear F
  refine wpC_of_any ?_
  k_steps
  · rename_i hlt
    have hlt : lo' < hi' := bis_lt hlt
    have hm : ((lo' : Int) + (hi' : Int)).fdiv 2 = (((lo' + hi') / 2 : Nat) : Int) := bis_hm
    refine wpC_execs_any ?_
    k_steps
    rename Fr _ _ _ _ => F
    rename News _ _ _ _ => N
    rw [hm] at F
    dsimp only at F N ⊢
    generalize hmid : (lo' + hi') / 2 = mid at F
    obtain ⟨m1, m2⟩ := bis_mid hlt hmid
    have m3 : mid < ls.length := Nat.lt_of_lt_of_le m2 e4
    obtain ⟨l, hl⟩ : ∃ l, ls[mid]? = some l := ⟨_, List.getElem?_eq_getElem m3⟩
    obtain ⟨v, hv, t3, rfl⟩ : ∃ v, vs[mid]? = some v ∧ ∃ t, v = .str l t := by
      obtain ⟨v, hv⟩ : ∃ v, vs[mid]? = some v := ⟨_, List.getElem?_eq_getElem (by rw [hvs.length]; exact m3)⟩
      obtain ⟨l', hl', t, rfl⟩ := hvs.at hv
      rw [hl] at hl'; cases hl'
      exact ⟨_, hv, t, rfl⟩
    have hlk := hok l (List.mem_of_getElem? hl)
    obtain ⟨hc1, hc2⟩ := hcmp mid l (Nat.zero_le _) m3 hl
    have ha0 := F.keep a _ habase
    refine wpC_execs_cons (wpC_If (wpC_isTrue_Compare1 (wpC_Call_Name ?_)))
    k_steps
    refine wpC_call_K0 (K := hd.heap_39 w.params) rfl (wpC_of_any ?_)
    k_steps
    refine item_litK (vs := vs) ⟨_, ha0, rfl, _, rfl⟩ (Int.natCast_nonneg _) (nat63 (Nat.le_trans (Nat.le_of_lt m3) hlen)) (v := .str l t3) (by simpa using hv) ?_
    k_steps
    refine cv_at (news := []) G B.base F N Fs (fun _ h => by cases h) hA (units_lt hroom (by decide)) hh hlk ?_
    intro h4 tk4 frs4 b4 vs4 n4 SU4 Fs4 ea4 F4 N4 hb4 hav4
    have hx4 := F4.keep x _ ((TI.gone_get hxf).trans hx)
    clear F N
    dsimp only [List.nil_append] at N4 hb4 ⊢
    refine wpC_of_any ?_
    k_steps
    refine lt_lists hav4 hus hc1 (N4 _ (.head _)).1 hx4 (units_lt hu (by decide)) ?_
    have N6 : News (bas s.heap frs) L h4 frs4 := fun p hp => N4 p (.tail _ hp)
    clear N4
    rw [hc2]
    by_cases hmr : mid < r
    · rw [decide_eq_true hmr]
      k_steps
      refine wpC_execs_any ?_
      k_steps
      dsimp only
      refine wpC_execs_nil ?_
      rename Fr _ _ _ _ => F
      rename News _ _ _ _ => N
      refine wpC_execs_nil ?_
      exact ⟨hi' - (mid + 1), bis_up m1 m2, _, _, _, frs4, mid + 1, hi', _, t2, rfl, F, N, SU.trans SU4, Fs4, rfl, rfl, rfl, rfl, rfl, Nat.zero_le _, hmr, e3, e4, rfl⟩
    · rw [decide_eq_false hmr]
      k_steps
      refine wpC_execs_any ?_
      k_steps
      dsimp only
      refine wpC_execs_nil ?_
      rename Fr _ _ _ _ => F
      rename News _ _ _ _ => N
      refine wpC_execs_nil ?_
      exact ⟨mid - lo', bis_dn m1 m2, _, _, _, frs4, lo', mid, t1, _, rfl, F, N, SU.trans SU4, Fs4, rfl, rfl, rfl, rfl, rfl, Nat.zero_le _, e2, (Nat.le_of_not_lt hmr), Nat.le_of_lt m3, rfl⟩
  · rename_i hlt
    have hlr : lo' = r := bis_end hlt e2 e3
    subst hlr
    dsimp only
    refine wpC_execs_nil ?_
    dsimp only
    refine wpC_execs_any ?_
    k_steps
    rename News _ _ _ _ => N
    exact k _ _ _ _ (Kx.of F' SU fun p hp => (N p hp).1)


set_option maxHeartbeats 8000000 in
theorem brG {w : World} {mg mb : Str → Option Value} {A : PySem.Around} {s : Shared} {R : Result → Shared → Prop} {h₀ : Heap} {outer : List Env} {frs : List (Addr × Obj)}
    {a x : Addr} {vs us : List Value} {n n' : Nat} {ls : List Str} {ks : List Atom} {r : Nat} {tl : Tok} {pos : List Value}
    (G : Gd w mg mb h₀) (B : Bs h₀ outer frs s.heap) (hA : A.frames = some outer) (hroom : A.depth + 20 < recursionLimit) (hu : A.units + 100 < cLine) (hh : A.handled = none)
    (ha : s.heap.get? a = some (W.listOf vs.toArray n)) (hvs : SV vs ls) (hx : s.heap.get? x = some (W.listOf us.toArray n')) (hus : AV us ks) (hok : ∀ l ∈ ls, LabOk l)
    (haf : a ∉ frA frs) (hxf : x ∉ frA frs)
    (hrh : r ≤ ls.length) (hlen : ls.length ≤ 1000)
    (hcmp : ∀ m l, 0 ≤ m → m < ls.length → ls[m]? = some l → Comp ks (keyOf l) ∧ rowLt ks (keyOf l) = decide (r ≤ m))
    (hbind : BindsTo s (fnD ((hd.heap_39 w.params).lookup 49)) ⟨pos, [(Str.ofString "key", .ref 80)]⟩ [(Str.ofString "a", .ref a), (Str.ofString "x", .ref x), (Str.ofString "lo", .int 0 tl), (Str.ofString "hi", .none), (Str.ofString "key", .ref 80)])
    (k : ∀ h' tk' frs' t, Kx frs frs' s.heap h' → R (.ok (.ret (.int (r : Int) t))) { s with heap := h', toks := tk' }) :
    codeC (model Challenge.rw_ph0088_02.row.prog w) A (.call (.ref 49) ⟨pos, [(Str.ofString "key", .ref 80)]⟩) R s := by
  have X := (G.keeps B.base).X
  have T := (G.keeps B.base).T
  have habase := (TI.gone_get haf).trans ha
  revert X; k_fill; intro X
  refine call_C (K := hd.heap_39 w.params) (binds := [(Str.ofString "a", .ref a), (Str.ofString "x", .ref x), (Str.ofString "lo", .int 0 tl), (Str.ofString "hi", .none), (Str.ofString "key", .ref 80)]) B G.X G.T.nolimit rfl rfl (by omega) ?bind rfl (fun L h₁ F N => ?_)
  case bind => exact hbind
  clear hbind
  refine wpC_execs_any ?_
  k_steps
  try dsimp only
  refine wpC_execs_any ?_
  k_steps
  try dsimp only
  have habase1 := F.keep a _ habase
  have esz : vs.toArray.size = ls.length := by rw [List.size_toArray, hvs.length]
  refine Calls.call_len_list ⟨_, habase1, rfl, _, rfl⟩ (by rw [esz]; exact nat63 hlen) ?_
  rw [esz]
  k_steps
  try dsimp only
  rename Fr _ _ _ _ => F
  rename News _ _ _ _ => N
  refine wpC_execs_cons (wpC_If (wpC_of_any ?_))
  k_steps
  refine wpC_execs_cons (wpC_While ?_)
  refine codeC_whileLoop (fun d s' => ∃ h tk m' frs' lo' hi' t1 t2, s' = { s with heap := h, toks := tk } ∧ Fr (bas s.heap frs) L h m' ∧ News (bas s.heap frs) L h frs' ∧ TI.SameUp frs frs' ∧ TI.Frs outer frs' ∧
    m' (Str.ofString "a") = some (.ref a) ∧ m' (Str.ofString "x") = some (.ref x) ∧ m' (Str.ofString "key") = some (.ref 80) ∧ m' (Str.ofString "lo") = some (.int ((lo' : Nat) : Int) t1) ∧ m' (Str.ofString "hi") = some (.int ((hi' : Nat) : Int) t2) ∧
    0 ≤ lo' ∧ lo' ≤ r ∧ r ≤ hi' ∧ hi' ≤ ls.length ∧ d = hi' - lo') ?_ (ls.length - 0) ⟨_, _, _, frs, 0, ls.length, _, _, rfl, F, N, TI.SameUp.refl _, B.isf, rfl, rfl, rfl, rfl, rfl, Nat.le_refl _, Nat.zero_le _, hrh, Nat.le_refl _, rfl⟩
  clear F N
  rintro d s' ⟨h, tk, m', frs', lo', hi', t1, t2, rfl, F, N, SU, Fs, ma, mx, mk, ml, mh, e1, e2, e3, e4, rfl⟩
  have F' := pins F [(Str.ofString "a", .ref a), (Str.ofString "x", .ref x), (Str.ofString "key", .ref 80), (Str.ofString "lo", .int ((lo' : Nat) : Int) t1), (Str.ofString "hi", .int ((hi' : Nat) : Int) t2)] ⟨ma, mx, mk, ml, mh, trivial⟩
  clear F
  refine wpC_of_any ?_
  k_steps
  · rename_i hlt
    have hlt : lo' < hi' := bis_lt hlt
    have hm : ((lo' : Int) + (hi' : Int)).fdiv 2 = (((lo' + hi') / 2 : Nat) : Int) := bis_hm
    refine wpC_execs_any ?_
    k_steps
    rename Fr _ _ _ _ => F
    rename News _ _ _ _ => N
    rw [hm] at F
    dsimp only at F N ⊢
    generalize hmid : (lo' + hi') / 2 = mid at F
    obtain ⟨m1, m2⟩ := bis_mid hlt hmid
    have m3 : mid < ls.length := Nat.lt_of_lt_of_le m2 e4
    obtain ⟨l, hl⟩ : ∃ l, ls[mid]? = some l := ⟨_, List.getElem?_eq_getElem m3⟩
    obtain ⟨v, hv, t3, rfl⟩ : ∃ v, vs[mid]? = some v ∧ ∃ t, v = .str l t := by
      obtain ⟨v, hv⟩ : ∃ v, vs[mid]? = some v := ⟨_, List.getElem?_eq_getElem (by rw [hvs.length]; exact m3)⟩
      obtain ⟨l', hl', t, rfl⟩ := hvs.at hv
      rw [hl] at hl'; cases hl'
      exact ⟨_, hv, t, rfl⟩
    have hlk := hok l (List.mem_of_getElem? hl)
    obtain ⟨hc1, hc2⟩ := hcmp mid l (Nat.zero_le _) m3 hl
    have ha0 := F.keep a _ habase
    refine wpC_execs_cons (wpC_If (wpC_isTrue_Compare1 (wpC_of_any ?_)))
    k_steps
    refine wpC_Call_Name ?_
    k_steps
    refine wpC_call_K0 (K := hd.heap_39 w.params) rfl (wpC_of_any ?_)
    k_steps
    refine item_litK (vs := vs) ⟨_, ha0, rfl, _, rfl⟩ (Int.natCast_nonneg _) (nat63 (Nat.le_trans (Nat.le_of_lt m3) hlen)) (v := .str l t3) (by simpa using hv) ?_
    k_steps
    refine cv_at (news := []) G B.base F N Fs (fun _ h => by cases h) hA (units_lt hroom (by decide)) hh hlk ?_
    intro h4 tk4 frs4 b4 vs4 n4 SU4 Fs4 ea4 F4 N4 hb4 hav4
    have hx4 := F4.keep x _ ((TI.gone_get hxf).trans hx)
    clear F N
    dsimp only [List.nil_append] at N4 hb4 ⊢
    refine lt_lists hus hav4 hc1 hx4 (N4 _ (.head _)).1 (units_lt hu (by decide)) ?_
    have N6 : News (bas s.heap frs) L h4 frs4 := fun p hp => N4 p (.tail _ hp)
    clear N4
    rw [hc2]
    by_cases hmr : r ≤ mid
    · rw [decide_eq_true hmr]
      k_steps
      refine wpC_execs_any ?_
      k_steps
      dsimp only
      refine wpC_execs_nil ?_
      rename Fr _ _ _ _ => F
      rename News _ _ _ _ => N
      refine wpC_execs_nil ?_
      exact ⟨mid - lo', bis_dn m1 m2, _, _, _, frs4, lo', mid, t1, _, rfl, F, N, SU.trans SU4, Fs4, rfl, rfl, rfl, rfl, rfl, Nat.zero_le _, e2, hmr, Nat.le_of_lt m3, rfl⟩
    · rw [decide_eq_false hmr]
      k_steps
      refine wpC_execs_any ?_
      k_steps
      dsimp only
      refine wpC_execs_nil ?_
      rename Fr _ _ _ _ => F
      rename News _ _ _ _ => N
      refine wpC_execs_nil ?_
      exact ⟨hi' - (mid + 1), bis_up m1 m2, _, _, _, frs4, mid + 1, hi', _, t2, rfl, F, N, SU.trans SU4, Fs4, rfl, rfl, rfl, rfl, rfl, Nat.zero_le _, (Nat.lt_of_not_le hmr), e3, e4, rfl⟩
  · rename_i hlt
    have hlr : lo' = r := bis_end hlt e2 e3
    subst hlr
    dsimp only
    refine wpC_execs_nil ?_
    dsimp only
    refine wpC_execs_any ?_
    k_steps
    rename News _ _ _ _ => N
    exact k _ _ _ _ (Kx.of F' SU fun p hp => (N p hp).1)


set_option maxHeartbeats 8000000 in
theorem br2_spec {w : World} {mg mb : Str → Option Value} {A : PySem.Around} {s : Shared} {R : Result → Shared → Prop} {h₀ : Heap} {outer : List Env} {frs : List (Addr × Obj)}
    {a x : Addr} {vs us : List Value} {n n' : Nat} {ls : List Str} {ks : List Atom} {r : Nat}
    (G : Gd w mg mb h₀) (B : Bs h₀ outer frs s.heap) (hA : A.frames = some outer) (hroom : A.depth + 20 < recursionLimit) (hu : A.units + 100 < cLine) (hh : A.handled = none)
    (ha : s.heap.get? a = some (W.listOf vs.toArray n)) (hvs : SV vs ls) (hx : s.heap.get? x = some (W.listOf us.toArray n')) (hus : AV us ks) (hok : ∀ l ∈ ls, LabOk l)
    (haf : a ∉ frA frs) (hxf : x ∉ frA frs)
    (hrh : r ≤ ls.length) (hlen : ls.length ≤ 1000)
    (hcmp : ∀ m l, 0 ≤ m → m < ls.length → ls[m]? = some l → Comp ks (keyOf l) ∧ rowLt ks (keyOf l) = decide (r ≤ m))
    (k : ∀ h' tk' frs' t, Kx frs frs' s.heap h' → R (.ok (.ret (.int (r : Int) t))) { s with heap := h', toks := tk' }) :
    codeC (model Challenge.rw_ph0088_02.row.prog w) A (.call (.ref 49) ⟨[.ref a, .ref x], [(Str.ofString "key", .ref 80)]⟩) R s := by
  have hb : BindsTo s (fnD ((hd.heap_39 w.params).lookup 49)) ⟨[.ref a, .ref x], [(Str.ofString "key", .ref 80)]⟩ [(Str.ofString "a", .ref a), (Str.ofString "x", .ref x), (Str.ofString "lo", .int 0 297), (Str.ofString "hi", .none), (Str.ofString "key", .ref 80)] := by
    have e : fnD ((hd.heap_39 w.params).lookup 49) = fnOf _ _ _ _ _ _ _ _ _ _ _ _ := rfl
    rw [e]
    exact binds_K (G.keeps B.stay).X rfl rfl rfl rfl rfl
  exact brG (tl := 297) G B hA hroom hu hh ha hvs hx hus hok haf hxf hrh hlen hcmp hb k

set_option maxHeartbeats 8000000 in
theorem brn_spec {w : World} {mg mb : Str → Option Value} {A : PySem.Around} {s : Shared} {R : Result → Shared → Prop} {h₀ : Heap} {outer : List Env} {frs : List (Addr × Obj)}
    {a x : Addr} {vs us : List Value} {n n' : Nat} {ls : List Str} {ks : List Atom} {r : Nat} {tl : Tok}
    (G : Gd w mg mb h₀) (B : Bs h₀ outer frs s.heap) (hA : A.frames = some outer) (hroom : A.depth + 20 < recursionLimit) (hu : A.units + 100 < cLine) (hh : A.handled = none)
    (ha : s.heap.get? a = some (W.listOf vs.toArray n)) (hvs : SV vs ls) (hx : s.heap.get? x = some (W.listOf us.toArray n')) (hus : AV us ks) (hok : ∀ l ∈ ls, LabOk l)
    (haf : a ∉ frA frs) (hxf : x ∉ frA frs)
    (hrh : r ≤ ls.length) (hlen : ls.length ≤ 1000)
    (hcmp : ∀ m l, 0 ≤ m → m < ls.length → ls[m]? = some l → Comp ks (keyOf l) ∧ rowLt ks (keyOf l) = decide (r ≤ m))
    (k : ∀ h' tk' frs' t, Kx frs frs' s.heap h' → R (.ok (.ret (.int (r : Int) t))) { s with heap := h', toks := tk' }) :
    codeC (model Challenge.rw_ph0088_02.row.prog w) A (.call (.ref 49) ⟨[.ref a, .ref x, .int 0 tl, .none], [(Str.ofString "key", .ref 80)]⟩) R s := by
  have hb : BindsTo s (fnD ((hd.heap_39 w.params).lookup 49)) ⟨[.ref a, .ref x, .int 0 tl, .none], [(Str.ofString "key", .ref 80)]⟩ [(Str.ofString "a", .ref a), (Str.ofString "x", .ref x), (Str.ofString "lo", .int 0 tl), (Str.ofString "hi", .none), (Str.ofString "key", .ref 80)] := by
    have e : fnD ((hd.heap_39 w.params).lookup 49) = fnOf _ _ _ _ _ _ _ _ _ _ _ _ := rfl
    rw [e]
    exact binds_K (G.keeps B.stay).X rfl rfl rfl rfl rfl
  exact brG (tl := tl) G B hA hroom hu hh ha hvs hx hus hok haf hxf hrh hlen hcmp hb k
end Mine
end
section
open PySem PySem.W PyProof.Rows PySem.Calls
set_option Elab.async false
set_option linter.unusedVariables false
set_option maxRecDepth 100000
namespace Mine

set_option maxHeartbeats 8000000 in
theorem ir2_spec {w : World} {mg mb : Str → Option Value} {A : PySem.Around} {s : Shared} {R : Result → Shared → Prop} {h₀ : Heap} {outer : List Env} {frs : List (Addr × Obj)}
    {a : Addr} {vs : List Value} {n : Nat} {ls : List Str} {x : Str} {tx : Tok} {r : Nat}
    (G : Gd w mg mb h₀) (B : Bs h₀ outer frs s.heap) (hA : A.frames = some outer) (hroom : A.depth + 30 < recursionLimit) (hu : A.units + 300 < cLine) (hh : A.handled = none)
    (ha : s.heap.get? a = some (W.listOf vs.toArray n)) (hvs : SV vs ls) (hok : ∀ l ∈ ls, LabOk l) (hx : LabOk x)
    (haf : a ∉ frA frs) (ha0 : h₀.get? a = none)
    (hrh : r ≤ ls.length) (hlen : ls.length ≤ 1000)
    (hcmp : ∀ m l, 0 ≤ m → m < ls.length → ls[m]? = some l → Comp (keyOf x) (keyOf l) ∧ rowLt (keyOf x) (keyOf l) = decide (r ≤ m))
    (k : ∀ h' tk' frs' n', Ky a frs frs' s.heap h' → h'.get? a = some (W.listOf (vs.take r ++ .str x tx :: vs.drop r).toArray n') → R (.ok (.ret .none)) { s with heap := h', toks := tk' }) :
    codeC (model Challenge.rw_ph0088_02.row.prog w) A (.call (.ref 40) ⟨[.ref a, .str x tx], [(Str.ofString "key", .ref 80)]⟩) R s := by
  have hb0 : ∀ b o, h₀.get? b = some o → (TI.gone (bas s.heap frs) [a]).get? b = some o := fun b o e =>
    (TI.gone_get fun hm => by rw [List.mem_singleton.mp hm, ha0] at e; cases e).trans (B.base b o e)
  have X := (G.keeps hb0).X
  have T := (G.keeps hb0).T
  revert X; k_fill; intro X
  refine call_C (K := hd.heap_39 w.params) (binds := [(Str.ofString "a", .ref a), (Str.ofString "x", .str x tx), (Str.ofString "lo", .int 0 284), (Str.ofString "hi", .none), (Str.ofString "key", .ref 80)]) B G.X G.T.nolimit rfl rfl (by omega) ?bind rfl (fun L h₁ F0 N0 => ?_)
  case bind => exact binds_K (G.keeps B.stay).X rfl rfl rfl rfl rfl
  have habase := (TI.gone_get haf).trans ha
  have haL := Fr.off F0 habase
  have F : Fr (TI.gone (bas s.heap frs) [a]) L h₁ _ := ⟨F0.ns, fun b o e => F0.keep b o (TI.gone_some e).2, by rw [bas_size]; exact F0.above⟩
  have N : News (TI.gone (bas s.heap frs) [a]) L h₁ ((a, W.listOf vs.toArray n) :: frs) := fun p hp => by
    rcases List.mem_cons.mp hp with rfl | hp
    · exact ⟨F0.keep _ _ habase, haL, TI.gone_none (List.mem_singleton.mpr rfl)⟩
    · have q := N0 p hp
      refine ⟨q.1, q.2.1, ?_⟩
      cases e : (TI.gone (bas s.heap frs) [a]).get? p.1 with
      | none => rfl
      | some o => have := (TI.gone_some e).2; rw [q.2.2] at this; cases this
  clear F0 N0
  refine wpC_execs_cons (wpC_If (wpC_of_any ?_))
  k_steps
  refine wpC_execs_cons (wpC_Assign_Name (wpC_Call_Name ?_))
  k_steps
  refine wpC_call_K1 (K := hd.heap_39 w.params) rfl (wpC_args_cons (wpC_of_any ?_))
  k_steps
  refine wpC_args_cons (wpC_Call_Name ?_)
  k_steps
  refine wpC_call_K0 (K := hd.heap_39 w.params) rfl (wpC_of_any ?_)
  k_steps
  refine cv_at (news := [(a, W.listOf vs.toArray n)]) G hb0 F N B.isf (fun p hp => by rw [List.mem_singleton.mp hp]; exact haf) hA (by omega) hh hx ?_
  intro h4 tk4 frs4 b4 vs4 n4 SU4 Fs4 ea4 F4 N4 hb4 hav4
  clear F N
  dsimp only [List.cons_append, List.nil_append] at N4 hb4 ⊢
  have haf4 : a ∉ frA frs4 := by rw [ea4]; exact haf
  have hbf4 : b4 ∉ frA frs4 := fun hm => by
    obtain ⟨p, hp, e⟩ := List.mem_map.mp hm
    exact hb4 p (.tail _ hp) e
  refine wpC_of_any ?_
  k_steps
  refine at_C (h₀ := h₀) (news := [(b4, W.listOf vs4.toArray n4), (a, W.listOf vs.toArray n)]) (fun v _ => ∃ t, v = .int (r : Int) t) hb0 F4 N4 Fs4 (fun p hp => ?_) hA (fun oL B' hA' => ?_) ?_
  · rcases List.mem_cons.mp hp with rfl | hp
    · exact hbf4
    · rw [List.mem_singleton.mp hp]; exact haf4
  · refine brn_spec G B' hA' (deeper_room (by omega)) (by show A.units + _ + 100 < _; exact units_lt2 hu (by decide)) hh (N4 _ (.tail _ (.head _))).1 hvs (N4 _ (.head _)).1 hav4 hok ?_ ?_ hrh hlen hcmp ?_
    · exact fun hm => (List.mem_cons.mp hm).elim haL haf4
    · exact fun hm => (List.mem_cons.mp hm).elim (N4 _ (.head _)).2.1 hbf4
    · intro h' tk' frs' t K
      exact ⟨_, h', tk', frs', rfl, rfl, K, t, rfl⟩
  rintro v h5 tk5 frs5 SU5 Fs5 ea5 F5 N5 ⟨t5, rfl⟩
  clear F4 N4
  dsimp only [List.cons_append, List.nil_append] at N5 ⊢
  have N6 : News (TI.gone (bas s.heap frs) [a]) L h5 ((a, W.listOf vs.toArray n) :: frs5) := fun p hp => N5 p (.tail _ hp)
  clear N5
  k_steps
  dsimp only
  refine wpC_execs_nil ?_
  dsimp only
  refine wpC_execs_any ?_
  k_steps
  rename Fr _ _ _ _ => F
  rename News _ _ _ _ => N
  have hin : kl_ins vs.toArray.toList (r : Int) (.str x tx) = vs.take r ++ .str x tx :: vs.drop r := by
    unfold kl_ins
    have h1 : r ≤ vs.length := by rw [hvs.length]; omega
    rw [if_neg (by omega)]
    simp [Nat.min_eq_left h1]
  refine kl_insert F N (l := vs.take r ++ .str x tx :: vs.drop r) (by rw [Builtin.List.listFitsIndex]; simp; omega) hin (.head fun p hp e => ?_) (by rw [sizeLine_eq]; simp [hvs.length]; omega) ?_
  · have : a ∈ frA frs5 := List.mem_map.mpr ⟨p, hp, e⟩
    rw [ea5, ea4] at this
    exact haf this
  intro h6 F6 N7
  k_steps
  refine wpC_execs_nil ?_
  refine k h6 _ frs5 _ ⟨SU4.trans SU5, fun p hp => (N7 p (.tail _ hp)).1, fun b o h1 h2 e => ?_⟩ (N7 _ (.head _)).1
  exact F6.keep b o ((TI.gone_get fun hm => h2 (List.mem_singleton.mp hm)).trans ((TI.gone_get h1).trans e))

end Mine
end
section
open PySem PySem.W PyProof.Rows PySem.Calls
set_option Elab.async false
set_option linter.unusedVariables false
set_option maxRecDepth 100000
namespace Mine
theorem up_nil2 {frs : List (Addr × Obj)} (h : TI.SameUp [] frs) : frs = [] := by cases frs with | nil => rfl | cons p l => exact h.elim
section
variable {w : World} {mg mb : Str → Option Value} {E : Value → Shared → Prop} {s : Shared} {hb : Heap} {news : List (Addr × Obj)} {L g : Addr} {m : Str → Option Value} {name : Str} {scope : Scope} {cd : Value} {Q : Value → Shared → Prop}
theorem cv_law2 {x : Str} {tk : Tok} (G : Gd w mg mb hb) (F : Fr hb L s.heap m) (N : News hb L s.heap news) (hx : LabOk x)
    (k : ∀ h' tk' a vs n, Fr hb L h' m → News hb L h' ((a, W.listOf (List.toArray vs) n) :: news) → (∀ p ∈ news, p.1 ≠ a) → AV vs (keyOf x) → Q (.ref a) { s with heap := h', toks := tk' })
    (hk : scope.kind = .function := by rfl) :
    wpC (model Challenge.rw_ph0088_02.row.prog w) (callerA.deeper (envOfC name scope L g cd)) (call (.ref 80) [.str x tk]) Q E s := by
  refine cv_atC (frs := []) (news := news) (outer := []) G (fun _ _ e => e) F (by rw [List.append_nil]; exact N) trivial (fun p _ h => by cases h) rfl (by decide +kernel) rfl hx ?_ hk
  intro h' tk' frs' a vs n SU _ _ F' N' hne hav
  rw [up_nil2 SU, List.append_nil] at N' hne
  exact k h' tk' a vs n F' N' hne hav

theorem bl_law2 {a x : Addr} {vs us : List Value} {n n' : Nat} {ls : List Str} {ks : List Atom} {r : Nat} (G : Gd w mg mb hb) (F : Fr hb L s.heap m) (N : News hb L s.heap news) (ha : (a, W.listOf vs.toArray n) ∈ news) (hvs : SV vs ls)
    (hx : (x, W.listOf us.toArray n') ∈ news) (hus : AV us ks) (hok : ∀ l ∈ ls, LabOk l) (hrh : r ≤ ls.length) (hlen : ls.length ≤ 1000)
    (hcmp : ∀ m l, 0 ≤ m → m < ls.length → ls[m]? = some l → Comp (keyOf l) ks ∧ rowLt (keyOf l) ks = decide (m < r))
    (k : ∀ h' tk' t, Fr hb L h' m → News hb L h' news → Q (.int (r : Int) t) { s with heap := h', toks := tk' })
    (hk : scope.kind = .function := by rfl) :
    wpC (model Challenge.rw_ph0088_02.row.prog w) (callerA.deeper (envOfC name scope L g cd)) (call (.ref 67) [.ref a, .ref x] [(Str.ofString "key", .ref 80)]) Q E s := by
  refine at_CC (h₀ := hb) (frs := []) (news := news) (outer := []) (fun v _ => ∃ t, v = .int (r : Int) t) (fun _ _ e => e) F (by rw [List.append_nil]; exact N) trivial (fun p _ h => by cases h) rfl (fun oL B' hA' => ?_) ?_ hk
  · refine bl2_spec G B' hA' (deeper_room (by decide +kernel)) (by show callerA.units + _ + 100 < cLine; decide +kernel) rfl (N _ ha).1 hvs (N _ hx).1 hus hok ?_ ?_ hrh hlen hcmp ?_
    · exact fun hm => (N _ ha).2.1 (List.mem_singleton.mp hm)
    · exact fun hm => (N _ hx).2.1 (List.mem_singleton.mp hm)
    · intro h' tk' frs' t K
      exact ⟨_, h', tk', frs', rfl, rfl, K, t, rfl⟩
  · rintro v h' tk' frs' SU _ _ F' N' ⟨t, rfl⟩
    rw [up_nil2 SU, List.append_nil] at N'
    exact k h' tk' t F' N'

theorem br_law2 {a x : Addr} {vs us : List Value} {n n' : Nat} {ls : List Str} {ks : List Atom} {r : Nat} (G : Gd w mg mb hb) (F : Fr hb L s.heap m) (N : News hb L s.heap news) (ha : (a, W.listOf vs.toArray n) ∈ news) (hvs : SV vs ls)
    (hx : (x, W.listOf us.toArray n') ∈ news) (hus : AV us ks) (hok : ∀ l ∈ ls, LabOk l) (hrh : r ≤ ls.length) (hlen : ls.length ≤ 1000)
    (hcmp : ∀ m l, 0 ≤ m → m < ls.length → ls[m]? = some l → Comp ks (keyOf l) ∧ rowLt ks (keyOf l) = decide (r ≤ m))
    (k : ∀ h' tk' t, Fr hb L h' m → News hb L h' news → Q (.int (r : Int) t) { s with heap := h', toks := tk' })
    (hk : scope.kind = .function := by rfl) :
    wpC (model Challenge.rw_ph0088_02.row.prog w) (callerA.deeper (envOfC name scope L g cd)) (call (.ref 49) [.ref a, .ref x] [(Str.ofString "key", .ref 80)]) Q E s := by
  refine at_CC (h₀ := hb) (frs := []) (news := news) (outer := []) (fun v _ => ∃ t, v = .int (r : Int) t) (fun _ _ e => e) F (by rw [List.append_nil]; exact N) trivial (fun p _ h => by cases h) rfl (fun oL B' hA' => ?_) ?_ hk
  · refine br2_spec G B' hA' (deeper_room (by decide +kernel)) (by show callerA.units + _ + 100 < cLine; decide +kernel) rfl (N _ ha).1 hvs (N _ hx).1 hus hok ?_ ?_ hrh hlen hcmp ?_
    · exact fun hm => (N _ ha).2.1 (List.mem_singleton.mp hm)
    · exact fun hm => (N _ hx).2.1 (List.mem_singleton.mp hm)
    · intro h' tk' frs' t K
      exact ⟨_, h', tk', frs', rfl, rfl, K, t, rfl⟩
  · rintro v h' tk' frs' SU _ _ F' N' ⟨t, rfl⟩
    rw [up_nil2 SU, List.append_nil] at N'
    exact k h' tk' t F' N'

theorem ir_law2 {a : Addr} {vs : List Value} {n : Nat} {ls : List Str} {x : Str} {tx : Tok} {r : Nat} (G : Gd w mg mb hb) (F : Fr hb L s.heap m) (N : News hb L s.heap ((a, W.listOf vs.toArray n) :: news)) (hna : ∀ p ∈ news, p.1 ≠ a) (hvs : SV vs ls)
    (hok : ∀ l ∈ ls, LabOk l) (hx : LabOk x) (hrh : r ≤ ls.length) (hlen : ls.length ≤ 1000)
    (hcmp : ∀ m l, 0 ≤ m → m < ls.length → ls[m]? = some l → Comp (keyOf x) (keyOf l) ∧ rowLt (keyOf x) (keyOf l) = decide (r ≤ m))
    (k : ∀ h' tk' n', Fr hb L h' m → News hb L h' ((a, W.listOf (List.toArray (vs.take r ++ .str x tx :: vs.drop r)) n') :: news) → Q .none { s with heap := h', toks := tk' })
    (hk : scope.kind = .function := by rfl) :
    wpC (model Challenge.rw_ph0088_02.row.prog w) (callerA.deeper (envOfC name scope L g cd)) (call (.ref 40) [.ref a, .str x tx] [(Str.ofString "key", .ref 80)]) Q E s := by
  refine at_CyC (h₀ := hb) (frs := []) (news := news) (outer := []) (fun v us => v = .none ∧ us = vs.take r ++ .str x tx :: vs.drop r) (fun _ _ e => e) F (by rw [List.append_nil]; exact N) trivial (fun p _ h => by cases h) hna rfl (fun oL B' haf hA' => ?_) ?_ hk
  · refine ir2_spec G B' hA' (deeper_room (by decide +kernel)) (by show callerA.units + _ + 300 < cLine; decide +kernel) rfl (N _ (.head _)).1 hvs hok hx haf (N _ (.head _)).2.2 hrh hlen hcmp ?_
    intro h' tk' frs' n' K hg
    exact ⟨_, h', tk', frs', _, n', rfl, rfl, K, hg, rfl, rfl⟩
  · rintro v h' tk' frs' us n' SU _ _ F' N' ⟨rfl, rfl⟩
    rw [up_nil2 SU, List.append_nil] at N'
    exact k h' tk' n' F' N'
end
end Mine
end
section
open PySem PySem.W PyProof.Rows PySem.Calls
set_option Elab.async false
set_option linter.unusedVariables false
set_option maxRecDepth 100000
namespace Mine
noncomputable def vers : List (List Str) := [[Str.ofString "1"], [Str.ofString "1", Str.ofString "Rc"], [Str.ofString "1", Str.ofString "devel"], [Str.ofString "1", Str.ofString "dev"], [Str.ofString "1", Str.ofString "dev", Str.ofString "9"], [Str.ofString "1", Str.ofString "dev", Str.ofString "10"],
  [Str.ofString "1", Str.ofString "a"], [Str.ofString "1", Str.ofString "alpha"], [Str.ofString "1", Str.ofString "beta"], [Str.ofString "1", Str.ofString "c"], [Str.ofString "1", Str.ofString "rc"], [Str.ofString "1", Str.ofString "0"], [Str.ofString "1", Str.ofString "9"], [Str.ofString "1", Str.ofString "10"], [Str.ofString "1", Str.ofString "pl"], [Str.ofString "2"]]
noncomputable def ver (i : Nat) : List Str := vers.getD i []
theorem parts_item {prog : Program} {w : World} {A : PySem.Around} {E : Value → Shared → Prop} {s : Shared} {h₀ : Heap} {L T : Addr} {news : List (Addr × Obj)} {l : List Value} {i : Nat} {u : Tok} {x : Str} {px : Pos} {slice : PySem.Expr} {vers : Nat → List Str} {Q : Value → Shared → Prop}
    (N : News h₀ L s.heap news) (ht : s.heap.get? T = some { cls := .type "tuple", data := .seq l.toArray }) (hi : i < 1000) (h : ∃ D vs n, l[i]? = some (.ref D) ∧ (D, W.listOf (List.toArray vs) n) ∈ news ∧ SV vs (vers i))
    (k : ∀ D vs n, (s.heap.get? D = some (W.listOf (List.toArray vs) n) ∧ D ≠ L ∧ h₀.get? D = none) → SV vs (vers i) → Q (.ref D) s)
    (hs : subscripted slice false (.ref T) (.int (i : Int) u) = operate [.ref T, .int (i : Int) u] (getItem (.ref T) (.int (i : Int) u)) := by with_unfolding_all rfl) :
    wpAny (model prog w) A (subscriptTail (.Name x px) slice (.ref T) (.int (i : Int) u)) Q E s := by
  obtain ⟨D, vs, n, e1, e2, e3⟩ := h
  have hl := (List.getElem?_eq_some_iff.mp e1).1
  exact item_tupleL ⟨_, ht, rfl, _, rfl⟩ (by omega) (by omega) (StrLaws.seqIndex_nonneg (by omega) (by omega)) (by simpa using e1) (k D vs n (N _ e2) e3) hs (by intro _; rfl)
set_option maxHeartbeats 8000000 in
theorem parts_any {w : World} {mg mb : Str → Option Value} {A : PySem.Around} {E : Value → Shared → Prop} {s : Shared} {hb : Heap} {L : Addr} {m : Str → Option Value} {news : List (Addr × Obj)} {i : Nat} {t : Tok} {Q : Value → Shared → Prop}
    (G : Gd w mg mb hb) (F : Fr hb L s.heap m) (N : News hb L s.heap news) (hroom : A.depth + 2 < recursionLimit) (hi : i < 16)
    (k : ∀ h' tk' D vs n, Fr hb L h' m → News hb L h' ((D, W.listOf (List.toArray vs) n) :: news) → (∀ p ∈ news, p.1 ≠ D) → SV vs (ver i) → Q (.ref D) { s with heap := h', toks := tk' }) :
    wpAny (model Challenge.rw_ph0088_02.row.prog w) A (call (.ref 87) [.int (i : Int) t]) Q E s := by
  have X := (G.keeps F.keep).X
  have T := (G.keeps F.keep).T
  revert X; k_fill; intro X
  refine keep_at (fun v h' => ∃ D vs n, v = .ref D ∧ h'.get? D = some (W.listOf (List.toArray vs) n) ∧ s.heap.get? D = none ∧ SV vs (ver i)) F N (call_A (K := hd.heap_39 w.params) (binds := [(Str.ofString "number", .int (i : Int) t)]) F.keep G.X G.T.nolimit rfl rfl (by omega) (BindsTo.of_eq rfl) rfl (fun L' h₁ F' N' => ?_)) ?_
  · k_steps
    rename News _ _ _ _ => N2
    rename Fr _ _ _ _ => F2
    have ht := (N2 _ (.head _)).1
    refine parts_item (vers := ver) N2 ht (by omega) ?_ ?_
    · obtain h | h | h | h | h | h | h | h | h | h | h | h | h | h | h | h : i = 0 ∨ i = 1 ∨ i = 2 ∨ i = 3 ∨ i = 4 ∨ i = 5 ∨ i = 6 ∨ i = 7 ∨ i = 8 ∨ i = 9 ∨ i = 10 ∨ i = 11 ∨ i = 12 ∨ i = 13 ∨ i = 14 ∨ i = 15 := lt16 i hi
      all_goals subst h
      · exact ⟨_, _, _, rfl, .tail _ (.tail _ (.tail _ (.tail _ (.tail _ (.tail _ (.tail _ (.tail _ (.tail _ (.tail _ (.tail _ (.tail _ (.tail _ (.tail _ (.tail _ (.tail _ (.head _)))))))))))))))), by repeat constructor⟩
      · exact ⟨_, _, _, rfl, .tail _ (.tail _ (.tail _ (.tail _ (.tail _ (.tail _ (.tail _ (.tail _ (.tail _ (.tail _ (.tail _ (.tail _ (.tail _ (.tail _ (.tail _ (.head _))))))))))))))), by repeat constructor⟩
      · exact ⟨_, _, _, rfl, .tail _ (.tail _ (.tail _ (.tail _ (.tail _ (.tail _ (.tail _ (.tail _ (.tail _ (.tail _ (.tail _ (.tail _ (.tail _ (.tail _ (.head _)))))))))))))), by repeat constructor⟩
      · exact ⟨_, _, _, rfl, .tail _ (.tail _ (.tail _ (.tail _ (.tail _ (.tail _ (.tail _ (.tail _ (.tail _ (.tail _ (.tail _ (.tail _ (.tail _ (.head _))))))))))))), by repeat constructor⟩
      · exact ⟨_, _, _, rfl, .tail _ (.tail _ (.tail _ (.tail _ (.tail _ (.tail _ (.tail _ (.tail _ (.tail _ (.tail _ (.tail _ (.tail _ (.head _)))))))))))), by repeat constructor⟩
      · exact ⟨_, _, _, rfl, .tail _ (.tail _ (.tail _ (.tail _ (.tail _ (.tail _ (.tail _ (.tail _ (.tail _ (.tail _ (.tail _ (.head _))))))))))), by repeat constructor⟩
      · exact ⟨_, _, _, rfl, .tail _ (.tail _ (.tail _ (.tail _ (.tail _ (.tail _ (.tail _ (.tail _ (.tail _ (.tail _ (.head _)))))))))), by repeat constructor⟩
      · exact ⟨_, _, _, rfl, .tail _ (.tail _ (.tail _ (.tail _ (.tail _ (.tail _ (.tail _ (.tail _ (.tail _ (.head _))))))))), by repeat constructor⟩
      · exact ⟨_, _, _, rfl, .tail _ (.tail _ (.tail _ (.tail _ (.tail _ (.tail _ (.tail _ (.tail _ (.head _)))))))), by repeat constructor⟩
      · exact ⟨_, _, _, rfl, .tail _ (.tail _ (.tail _ (.tail _ (.tail _ (.tail _ (.tail _ (.head _))))))), by repeat constructor⟩
      · exact ⟨_, _, _, rfl, .tail _ (.tail _ (.tail _ (.tail _ (.tail _ (.tail _ (.head _)))))), by repeat constructor⟩
      · exact ⟨_, _, _, rfl, .tail _ (.tail _ (.tail _ (.tail _ (.tail _ (.head _))))), by repeat constructor⟩
      · exact ⟨_, _, _, rfl, .tail _ (.tail _ (.tail _ (.tail _ (.head _)))), by repeat constructor⟩
      · exact ⟨_, _, _, rfl, .tail _ (.tail _ (.tail _ (.head _))), by repeat constructor⟩
      · exact ⟨_, _, _, rfl, .tail _ (.tail _ (.head _)), by repeat constructor⟩
      · exact ⟨_, _, _, rfl, .tail _ (.head _), by repeat constructor⟩
    · intro D vs n e hs
      refine ⟨_, _, _, rfl, rfl, F2.keep, D, vs, n, rfl, e.1, e.2.2, hs⟩
  · rintro v h' tk' K2 F2 N2 ⟨D, vs, n, rfl, e1, e2, hs⟩
    have nw := new_apart F N e2
    refine k h' tk' D vs n F2 (fun p hp => ?_) nw.2.2 hs
    rcases List.mem_cons.mp hp with rfl | hp
    · exact ⟨e1, nw.1, nw.2.1⟩
    · exact N2 p hp
end Mine
end
section
open PySem PySem.W PyProof.Rows PySem.Calls
set_option Elab.async false
set_option linter.unusedVariables false
set_option maxRecDepth 100000
namespace Mine
theorem ver_ok : ∀ i, i < 16 → ∀ p ∈ ver i, p.cps.size ≠ 0 ∧ p.cps.size ≤ 10 := by decide +kernel
theorem ver_len : ∀ i, i < 16 → (ver i).length ≤ 3 := by decide +kernel
theorem ver_ne : ∀ i, i < 16 → ver i ≠ [] := by decide +kernel
noncomputable def JSp (ps : List Str) (st : Nat) (ts : Tok) (D : Addr) (nx₀ : List (Addr × Obj)) (i : Nat) (m' : Str → Option Value) (nx : List (Addr × Obj)) : Prop :=
  nx = nx₀ ∧ ∃ t, Pins m' [(Str.ofString "parts", .ref D), (Str.ofString "style", .int (st : Int) ts), (Str.ofString "text", .str (spellTo ps st i) t)]
noncomputable def MSp (s : Shared) (hb : Heap) (L : Addr) (D : Addr) (st : Nat) (ts : Tok) (i : Nat) (ti : Tok) (txt : Str) (ld : List (Addr × Obj)) (more : Option Str) (f : Flow) (s' : Shared) : Prop :=
  f = .next ∧ ∃ h tk m' t t2, s' = { s with heap := h, toks := tk } ∧ Fr hb L h m' ∧ News hb L h ld ∧
      Pins m' ([(Str.ofString "parts", .ref D), (Str.ofString "style", .int (st : Int) ts), (Str.ofString "text", .str txt t), (Str.ofString "k", .int (i : Int) ti)] ++ (match more with | some g => [(Str.ofString "gap", .str g t2)] | none => []))
set_option maxHeartbeats 8000000 in
theorem spelled_any {w : World} {mg mb : Str → Option Value} {A : PySem.Around} {E : Value → Shared → Prop} {s : Shared} {hb : Heap} {L : Addr} {m : Str → Option Value} {news : List (Addr × Obj)} {j st : Nat} {tj ts : Tok} {Q : Value → Shared → Prop}
    (G : Gd w mg mb hb) (F : Fr hb L s.heap m) (N : News hb L s.heap news) (hroom : A.depth + 5 < recursionLimit) (hh : A.handled = none) (hj : j < 16) (hst : st ≤ 100)
    (k : ∀ h' tk' t, Fr hb L h' m → News hb L h' news → Q (.str (spellTo (ver j) st (ver j).length) t) { s with heap := h', toks := tk' }) :
    wpAny (model Challenge.rw_ph0088_02.row.prog w) A (call (.ref 101) [.int (j : Int) tj, .int (st : Int) ts]) Q E s := by
  obtain ⟨ah, ad, af, ag, au⟩ := A
  obtain rfl : ah = none := hh
  replace hroom : ad + 5 < recursionLimit := hroom
  have Gs := G.keeps F.keep
  have X := Gs.X
  have T := Gs.T
  revert X; k_fill; intro X
  refine keep_at (fun v _ => ∃ t, v = .str (spellTo (ver j) st (ver j).length) t) F N (call_A (K := hd.heap_39 w.params) (binds := [(Str.ofString "number", .int (j : Int) tj), (Str.ofString "style", .int (st : Int) ts)]) F.keep G.X G.T.nolimit rfl rfl (by show ad < _; exact units_lt0 hroom) (BindsTo.of_eq rfl) rfl (fun L' h₁ F' N' => ?_)) ?_
  · clear k F N
    generalize hps : ver j = ps
    have hpo : ∀ p ∈ ps, p.cps.size ≠ 0 ∧ p.cps.size ≤ 10 := by rw [← hps]; exact ver_ok j hj
    have hlen : ps.length ≤ 3 := by rw [← hps]; exact ver_len j hj
    refine stmt_any ?_
    k_steps
    refine parts_any Gs F' N' (by show ad + 1 + 2 < _; exact units_lt2 hroom (by decide)) hj ?_
    intro h2 tk2 D vs n F2 N2 hne hvs
    rw [hps] at hvs
    clear F' N'
    k_steps
    refine nxt_go ?_
    rename Fr _ _ _ _ => F3
    rename News _ _ _ _ => N3
    have N4 : News s.heap L' _ [(D, W.listOf vs.toArray n)] := fun p hp => N3 p (.tail _ hp)
    clear N3
    have esz : vs.toArray.size = ps.length := by rw [List.size_toArray, hvs.length]
    refine stmt_any (for_any ?_)
    k_steps
    unfold Nxt
    rename_i hrg F5 N5 hkp
    clear hkp
    dsimp only at hrg F5 N5 ⊢
    refine loopA_range (n := ps.length) (JSp ps st ts D [(D, W.listOf vs.toArray n)]) rfl rfl hrg rfl (by omega) F5 N5 ⟨rfl, _, rfl, rfl, rfl, trivial⟩ ?_ ?_ ?_
    · rintro i ti m₁ nx h tk own hi hown _ ⟨rfl, tl, P1⟩ F6 N6
      have F7 := pins F6 _ P1
      have N7 : News s.heap L' h ((D, W.listOf vs.toArray n) :: own) := fun p hp => N6 p (by
        rcases List.mem_cons.mp hp with rfl | hp
        · exact List.mem_append_right _ (.head _)
        · exact List.mem_append_left _ hp)
      clear F6 F5 N5 N6
      have hm5 : ((st : Int) + (i : Int)).fmod 5 = (((st + i) % 5 : Nat) : Int) := fmod5
      have hm3 : ((st : Int) + (i : Int)).fmod 3 = (((st + i) % 3 : Nat) : Int) := fmod3
      obtain ⟨v, hv, tv, rfl⟩ : ∃ v, vs[i]? = some v ∧ ∃ t, v = .str (partAt ps i) t := by
        obtain ⟨v, hv⟩ : ∃ v, vs[i]? = some v := ⟨_, List.getElem?_eq_getElem (by rw [hvs.length]; exact hi)⟩
        obtain ⟨l', hl', t, rfl⟩ := hvs.at hv
        exact ⟨_, hv, t, by unfold partAt; rw [List.getD_eq_getElem?_getD, hl']; rfl⟩
      have hpi := hpo (partAt ps i) (by unfold partAt; rw [List.getD_eq_getElem?_getD, List.getElem?_eq_getElem hi]; exact List.getElem_mem hi)
      k_steps
      unfold Nxt
      rename Fr _ _ _ _ => F8
      rename News _ _ _ _ => N8
      dsimp only at F8 N8 ⊢
      have hl1 := spell_len hpo st i
      have hl2 := gap_len ps st i
      have hi3 : i < 3 := Nat.lt_of_lt_of_le hi hlen
      refine wpAny_execs_cons (wpAny_mono (Q := MSp s s.heap L' D st ts i ti (if i = 0 then spellTo ps st i else spellTo ps st i ++ gapAt ps st i) ((D, W.listOf vs.toArray n) :: own) none) (E := NoE) (if_any ?_) ?_ fun _ _ x => x)
      · k_steps
        · rename_i hi0
          have hi0 : ¬ i = 0 := gt0 hi0
          unfold Nxt
          refine stmt_any ?_
          k_steps
          rename Fr _ _ _ _ => F
          rename News _ _ _ _ => N
          rw [hm5]
          refine item_strsTu (ys := gaps) (l := [_, _, _, _, _]) ⟨_, (N _ (.head _)).1, rfl, _, rfl⟩ ?_ (Int.natCast_nonneg _) (Int.ofNat_lt.mpr (Nat.mod_lt _ (by decide))) (nat63 (Nat.le_trans (Nat.le_of_lt (Nat.mod_lt _ (by decide))) (by decide))) ?_
          · repeat constructor
          intro tg
          rw [Int.toNat_natCast]
          have N5 : News s.heap L' _ ((D, W.listOf vs.toArray n) :: own) := fun p hp => N p (.tail _ hp)
          clear N
          generalize hgg : gaps.getD ((st + i) % 5) Str.empty = gg
          k_steps
          refine nxt_go ?_
          rename Fr _ _ _ _ => F5
          rename News _ _ _ _ => N5
          dsimp only at F5 N5 ⊢
          refine wpAny_execs_cons (wpAny_mono (Q := MSp s s.heap L' D st ts i ti (spellTo ps st i) ((D, W.listOf vs.toArray n) :: own) (some (gapAt ps st i))) (E := NoE) (if_any ?_) ?_ fun _ _ x => x)
          · k_steps
            · rename_i hge
              have hge : gg = Str.ofString "" := by simpa using hge
              have him : i - 1 < ps.length := Nat.lt_of_le_of_lt (Nat.sub_le _ _) hi
              obtain ⟨v2, hv2, tv2, rfl⟩ : ∃ v, vs[i - 1]? = some v ∧ ∃ t, v = .str (partAt ps (i - 1)) t := by
                obtain ⟨v, hv⟩ : ∃ v, vs[i - 1]? = some v := ⟨_, List.getElem?_eq_getElem (by rw [hvs.length]; exact him)⟩
                obtain ⟨l', hl', t, rfl⟩ := hvs.at hv
                exact ⟨_, hv, t, by unfold partAt; rw [List.getD_eq_getElem?_getD, hl']; rfl⟩
              have hpj := hpo (partAt ps (i - 1)) (by unfold partAt; rw [List.getD_eq_getElem?_getD, List.getElem?_eq_getElem him]; exact List.getElem_mem him)
              refine item_litK (vs := vs) ⟨_, (N5 _ (.head _)).1, rfl, _, rfl⟩ (Int.natCast_nonneg _) (nat63 (Nat.le_trans (Nat.le_of_lt hi3) (by decide))) (v := .str (partAt ps i) tv) (by simpa using hv) ?_
              k_steps
              refine fig_any Gs F5 N5 (by show ad + 1 + 2 < _; exact units_lt2 hroom (by decide)) hpi.1 ?_
              intro h6 tk6 F6 N6
              clear F5 N5
              k_steps
              refine item_litK (vs := vs) ⟨_, (N6 _ (.head _)).1, rfl, _, rfl⟩ (im1 hi0 hi3).1 (im1 hi0 hi3).2.1 (v := .str (partAt ps (i - 1)) tv2) (by rw [(im1 hi0 hi3).2.2]; exact hv2) ?_
              k_steps
              refine fig_any Gs F6 N6 (by show ad + 1 + 2 < _; exact units_lt2 hroom (by decide)) hpj.1 ?_
              intro h7 tk7 F7 N7
              clear F6 N6
              k_steps
              · rename_i hfe
                have hfe : figOf (partAt ps i) = figOf (partAt ps (i - 1)) := by simpa using hfe
                unfold Nxt
                refine stmt_any ?_
                k_steps
                refine nxt_go ?_
                rename Fr _ _ _ _ => F8
                rename News _ _ _ _ => N8
                dsimp only
                have : gapAt ps st i = Str.ofString "." := by unfold gapAt; rw [hgg, if_pos ⟨hge, hfe⟩]
                rw [this]
                exact wpAny_execs_nil ⟨rfl, _, _, _, tl, _, rfl, F8, N8, rfl, rfl, rfl, rfl, rfl, trivial⟩
              · rename_i hfe
                have hfe : ¬ figOf (partAt ps i) = figOf (partAt ps (i - 1)) := by simpa using hfe
                have : gapAt ps st i = gg := by unfold gapAt; rw [hgg, if_neg (fun h => hfe h.2)]
                rw [this]
                exact wpAny_execs_nil ⟨rfl, _, _, _, tl, tg, rfl, F7, N7, rfl, rfl, rfl, rfl, rfl, trivial⟩
            · rename_i hge
              have hge : ¬ gg = Str.ofString "" := by simpa using hge
              have : gapAt ps st i = gg := by unfold gapAt; rw [hgg, if_neg (fun h => hge h.1)]
              rw [this]
              exact wpAny_execs_nil ⟨rfl, _, _, _, tl, tg, rfl, F5, N5, rfl, rfl, rfl, rfl, rfl, trivial⟩
          · rintro f s' ⟨rfl, h6, tk6, m6, t61, t62, rfl, F6, N6, P6⟩
            have F7 := pins F6 _ P6
            clear F6 F5 N5
            dsimp only
            refine stmt_any ?_
            k_steps
            refine nxt_go ?_
            rename Fr _ _ _ _ => F8
            rename News _ _ _ _ => N8
            dsimp only
            rw [if_neg hi0]
            exact wpAny_execs_nil ⟨rfl, _, _, _, _, tl, rfl, F8, N8, rfl, rfl, rfl, rfl, trivial⟩
        · rename_i hi0
          have hi0 : i = 0 := ngt0 hi0
          unfold Nxt
          refine wpAny_execs_nil ?_
          refine ⟨rfl, _, _, _, tl, tl, rfl, F8, N8, ?_⟩
          rw [if_pos hi0]
          exact ⟨rfl, rfl, rfl, rfl, trivial⟩
      · rintro f s' ⟨rfl, h4, tk4, m4, t4, _, rfl, F4, N4, P4⟩
        have F5 := pins F4 _ P4
        clear F4 F8 N8
        dsimp only
        refine wpAny_execs_cons (wpAny_mono (Q := MSp s s.heap L' D st ts i ti (if figOf (partAt ps i) then (if i = 0 then spellTo ps st i else spellTo ps st i ++ gapAt ps st i) ++ zerosAt st i else (if i = 0 then spellTo ps st i else spellTo ps st i ++ gapAt ps st i)) ((D, W.listOf vs.toArray n) :: own) none) (E := NoE) (if_any ?_) ?_ fun _ _ x => x)
        · k_steps
          rename News _ _ _ _ => N5
          rename Fr _ _ _ _ => F5
          refine item_litK (vs := vs) ⟨_, (N5 _ (.head _)).1, rfl, _, rfl⟩ (Int.natCast_nonneg _) (nat63 (Nat.le_trans (Nat.le_of_lt hi3) (by decide))) (v := .str (partAt ps i) tv) (by simpa using hv) ?_
          k_steps
          refine fig_any Gs F5 N5 (by show ad + 1 + 2 < _; exact units_lt2 hroom (by decide)) hpi.1 ?_
          intro h6 tk6 F6 N6
          clear F5 N5
          have hl1 : (if i = 0 then spellTo ps st i else spellTo ps st i ++ gapAt ps st i).length ≤ 2000 := by
            split
            · omega
            · rw [PySem.Str.length_append]; omega
          generalize (if i = 0 then spellTo ps st i else spellTo ps st i ++ gapAt ps st i) = lab at F6 hl1 ⊢
          cases hf : figOf (partAt ps i) with
          | true =>
            k_steps
            unfold Nxt
            refine stmt_any ?_
            k_steps
            refine nxt_go ?_
            rename Fr _ _ _ _ => F8
            rename News _ _ _ _ => N8
            rw [hm3] at F8
            dsimp only
            exact wpAny_execs_nil ⟨rfl, _, _, _, _, tl, rfl, F8, N8, rfl, rfl, rfl, rfl, trivial⟩
          | false =>
            k_steps
            exact wpAny_execs_nil ⟨rfl, _, _, _, t4, tl, rfl, F6, N6, rfl, rfl, rfl, rfl, trivial⟩
        · rintro f s' ⟨rfl, h7, tk7, m7, t7, _, rfl, F7, N7, P7⟩
          have F8 := pins F7 _ P7
          clear F7 F5
          dsimp only
          refine stmt_any ?_
          k_steps
          rename News _ _ _ _ => N8
          rename Fr _ _ _ _ => F8
          refine item_litK (vs := vs) ⟨_, (N8 _ (.head _)).1, rfl, _, rfl⟩ (Int.natCast_nonneg _) (nat63 (Nat.le_trans (Nat.le_of_lt hi3) (by decide))) (v := .str (partAt ps i) tv) (by simpa using hv) ?_
          k_steps
          refine iadd_str ?_ ?_
          · intro t9 tk9
            k_steps
            refine nxt_go ?_
            rename Fr _ _ _ _ => F9
            rename News _ _ _ _ => N9
            dsimp only
            refine wpAny_execs_nil ⟨_, _, _, _, rfl, F9, fun p hp => N9 p ?_, rfl, _, rfl, rfl, rfl, trivial⟩
            rcases List.mem_append.mp hp with hp | hp
            · exact .tail _ hp
            · rw [List.mem_singleton.mp hp]; exact .head _
          · rw [sizeLine_eq]
            have h3 := zeros_len st i; have h4 := part_len hpo i
            split <;> split <;> (try simp only [PySem.Str.length_append]) <;> omega
    · rintro i m' nx ⟨rfl, _⟩ p hp e
      rw [List.mem_singleton.mp hp] at e
      exact absurd (Heap.lt_size (N5 _ (.head _)).1) (by rw [e]; exact Nat.lt_irrefl _)
    · rintro m₁ nx h tk ⟨rfl, tl, P1⟩ F6 N6
      have F7 := pins F6 _ P1
      clear F6
      dsimp only
      refine stmt_any ?_
      k_steps
      exact ⟨_, _, _, rfl, rfl, F7.keep, _, rfl⟩
  · rintro v h' tk' _ F2 N2 ⟨t, rfl⟩
    exact k h' tk' t F2 N2
end Mine
end
section
open PySem PySem.W PyProof.Rows PySem.Calls
set_option Elab.async false
set_option linter.unusedVariables false
set_option maxRecDepth 100000
namespace Mine
noncomputable def plainC (c : Nat) : Bool := !(Sre.isDigit c || isSep c)
theorem getD_drop {t : Array Nat} {p c : Nat} {r : List Nat} (h : t.toList.drop p = c :: r) : t.getD p 0 = c := by
  have e : t.toList[p]? = some c := by rw [← List.head?_drop, h]; rfl
  rw [Array.getD_eq_getD_getElem?, ← Array.getElem?_toList, e]; rfl
theorem getD_end {t : Array Nat} {p : Nat} (h : t.toList.drop p = []) : t.getD p 0 = 0 := by
  have e : t.toList[p]? = none := by rw [← List.head?_drop, h]; rfl
  rw [Array.getD_eq_getD_getElem?, ← Array.getElem?_toList, e]; rfl
theorem drop_succ {l : List Nat} {p c : Nat} {r : List Nat} (h : l.drop p = c :: r) : l.drop (p + 1) = r := by
  rw [← List.tail_drop, h]; rfl
theorem drop_add {l w r : List Nat} {p : Nat} (h : l.drop p = w ++ r) : l.drop (p + w.length) = r := by
  rw [← List.drop_drop, h, List.drop_left]
theorem size_drop {t : Array Nat} {w : List Nat} {p : Nat} (h : t.toList.drop p = w) (hp : p ≤ t.size) : t.size = p + w.length := by
  have := congrArg List.length h
  rw [List.length_drop, Array.length_toList] at this; omega
theorem ext_drop {t : Array Nat} {p : Nat} {w r : List Nat} (h : t.toList.drop p = w ++ r) : ext t p (p + w.length) = ⟨w.toArray⟩ := by
  unfold ext
  congr 1
  apply Array.toList_inj.mp
  rw [Array.toList_extract]
  show List.take (p + w.length - p) (t.toList.drop p) = _
  rw [h, Nat.add_sub_cancel_left, List.take_left]
theorem firstAt_hit (t : Array Nat) : ∀ (w : List Nat) (n p c : Nat) (r : List Nat), t.toList.drop p = w ++ c :: r → w.all plainC = true → plainC c = false → w.length < n → firstAt t n p = p + w.length
  | [], n, p, c, r, h, hw, hc, hn => by
    cases n with
    | zero => exact absurd hn (Nat.lt_irrefl _)
    | succ n =>
      rw [firstAt, getD_drop h]
      unfold plainC at hc
      rw [if_pos (by cases h : (Sre.isDigit c || isSep c) with | true => rfl | false => rw [h] at hc; cases hc)]; rfl
  | a :: w, n, p, c, r, h, hw, hc, hn => by
    cases n with
    | zero => exact absurd hn (Nat.not_lt_zero _)
    | succ n =>
      rw [List.all_cons, Bool.and_eq_true] at hw
      have ha := hw.1
      unfold plainC at ha
      rw [firstAt, getD_drop h, if_neg (by simpa using ha), firstAt_hit t w n (p + 1) c r (drop_succ h) hw.2 hc (by simpa using hn), List.length_cons]
      omega
theorem firstAt_end (t : Array Nat) : ∀ (w : List Nat) (p : Nat), t.toList.drop p = w → w.all plainC = true → firstAt t w.length p = p + w.length
  | [], p, h, hw => rfl
  | a :: w, p, h, hw => by
    rw [List.all_cons, Bool.and_eq_true] at hw
    have ha := hw.1
    unfold plainC at ha
    rw [List.length_cons, firstAt, getD_drop h, if_neg (by simpa using ha), firstAt_end t w (p + 1) (drop_succ h) hw.2]
    omega
theorem digs_run (t : Array Nat) : ∀ (d : List Nat) (n p : Nat) (r : List Nat), t.toList.drop p = d ++ r → d.all Sre.isDigit = true → (∀ c r', r = c :: r' → Sre.isDigit c = false) → d.length ≤ n → digs t n p = d.length
  | [], n, p, r, h, hd, hr, hn => by
    cases n with
    | zero => rfl
    | succ n =>
      rw [digs]
      cases r with
      | nil => rw [getD_end h]; rfl
      | cons c r' => rw [getD_drop h, hr c r' rfl]; rfl
  | a :: d, n, p, r, h, hd, hr, hn => by
    cases n with
    | zero => exact absurd hn (Nat.not_succ_le_zero _)
    | succ n =>
      rw [List.all_cons, Bool.and_eq_true] at hd
      rw [digs, getD_drop h, if_pos hd.1, digs_run t d n (p + 1) r (drop_succ h) hd.2 hr (by simpa using hn)]; rfl
/-- no hit left -/
theorem toks_end {t : Array Nat} {p : Nat} {w : List Nat} (h : t.toList.drop p = w) (hp : p ≤ t.size) (hw : w.all plainC = true) : ∀ f, toks t f p = [⟨w.toArray⟩] := by
  have hs := size_drop h hp
  have he : ext t p t.size = ⟨w.toArray⟩ := by rw [hs]; exact ext_drop (r := []) (by rw [List.append_nil]; exact h)
  intro f
  cases f with
  | zero => rw [toks, he]
  | succ f =>
    rw [toks]
    have : nextQ t p = t.size := by
      show firstAt t (t.size - p) p = _
      rw [show t.size - p = w.length by omega, firstAt_end t w p h hw]; omega
    rw [this, if_neg (Nat.lt_irrefl _), he]
/-- a sign -/
theorem toks_sep {t : Array Nat} {p c f : Nat} {w r : List Nat} (h : t.toList.drop p = w ++ c :: r) (hp : p ≤ t.size) (hw : w.all plainC = true) (hc : isSep c = true) (hd : Sre.isDigit c = false) :
    toks t (f + 1) p = ⟨w.toArray⟩ :: ⟨#[c]⟩ :: toks t f (p + w.length + 1) ∧ t.toList.drop (p + w.length + 1) = r ∧ p + w.length + 1 ≤ t.size := by
  have hs := size_drop h hp
  rw [List.length_append, List.length_cons] at hs
  have hq : nextQ t p = p + w.length := firstAt_hit t w _ p c r h hw (by unfold plainC; rw [hc]; simp) (by omega)
  have hdr := drop_add h
  have hend : hitEnd t (p + w.length) = p + w.length + 1 := by unfold hitEnd; rw [getD_drop hdr, hd]; rfl
  refine ⟨?_, drop_succ hdr, by omega⟩
  rw [toks, hq, if_pos (by omega), hend, ext_drop h]
  have := ext_drop (t := t) (p := p + w.length) (w := [c]) (r := r) hdr
  rw [show [c].length = 1 from rfl] at this
  rw [this]
/-- a number -/
theorem toks_num {t : Array Nat} {p f : Nat} {w d r : List Nat} (h : t.toList.drop p = w ++ (d ++ r)) (hp : p ≤ t.size) (hw : w.all plainC = true) (hd : d.all Sre.isDigit = true) (hne : d ≠ []) (hr : ∀ c r', r = c :: r' → Sre.isDigit c = false) :
    toks t (f + 1) p = ⟨w.toArray⟩ :: ⟨d.toArray⟩ :: toks t f (p + w.length + d.length) ∧ t.toList.drop (p + w.length + d.length) = r ∧ p + w.length + d.length ≤ t.size := by
  have hs := size_drop h hp
  rw [List.length_append, List.length_append] at hs
  obtain ⟨c, d', rfl⟩ : ∃ c d', d = c :: d' := by cases d with | nil => exact absurd rfl hne | cons c d' => exact ⟨c, d', rfl⟩
  have hcd : Sre.isDigit c = true := by rw [List.all_cons, Bool.and_eq_true] at hd; exact hd.1
  have hq : nextQ t p = p + w.length := firstAt_hit t w _ p c (d' ++ r) h hw (by unfold plainC; rw [hcd]; rfl) (by rw [List.length_cons] at hs; omega)
  have hdr := drop_add h
  have hend : hitEnd t (p + w.length) = p + w.length + (c :: d').length := by
    unfold hitEnd
    rw [getD_drop (c := c) (r := d' ++ r) hdr, if_pos hcd]
    show _ + digs t _ _ = _
    rw [digs_run t (c :: d') _ _ r hdr hd hr (by omega)]
  refine ⟨?_, drop_add hdr, by omega⟩
  rw [toks, hq, if_pos (by rw [List.length_cons] at hs; omega), hend, ext_drop h, ext_drop hdr]
end Mine
end
section
open PySem PySem.W PyProof.Rows PySem.Calls
set_option Elab.async false
set_option linter.unusedVariables false
set_option maxRecDepth 100000
namespace Mine
/-- what is asked of a part -/
structure PartOk (p : Str) : Prop where
  size : p.cps.size ≠ 0 ∧ p.cps.size ≤ 10
  word : figOf p = false → p.cps.toList.all plainC = true ∧ TokOk p
  num : figOf p = true → p.cps.toList.all Sre.isDigit = true ∧ ∀ j, j < 3 → TokOk ⟨(List.replicate j 48 ++ p.cps.toList).toArray⟩ ∧ atomsOf ⟨(List.replicate j 48 ++ p.cps.toList).toArray⟩ = atomsOf p
/-- rows of tokens and what they are told as -/
noncomputable def Told (l : List Str) (as : List Atom) : Prop := (∀ v ∈ l, TokOk v) ∧ l.flatMap atomsOf = as
theorem Told.cons {v : Str} {l : List Str} {as bs : List Atom} (h : TokOk v) (e : atomsOf v = as) (k : Told l bs) : Told (v :: l) (as ++ bs) :=
  ⟨fun u hu => (List.mem_cons.mp hu).elim (fun q => q ▸ h) (k.1 u), by rw [List.flatMap_cons, e, k.2]⟩
theorem Told.one {v : Str} {as : List Atom} (h : TokOk v) (e : atomsOf v = as) : Told [v] as :=
  ⟨fun u hu => by rw [List.mem_singleton.mp hu]; exact h, by rw [List.flatMap_cons, e]; simp⟩

/-- the sign between two parts, as figures -/
noncomputable def gapL (ps : List Str) (st k : Nat) : List Nat := (gapAt ps st k).cps.toList
noncomputable def zerosL (st k : Nat) : List Nat := List.replicate ((st + k) % 3) 48
theorem zeros_eq (st k : Nat) : (zerosAt st k).cps.toList = zerosL st k := by
  unfold zerosAt zerosL; rcases mod3 (st + k) with h | h | h <;> rw [h] <;> rfl
noncomputable def bodyL (ps : List Str) (st k : Nat) : List Nat := if figOf (partAt ps k) then zerosL st k ++ (partAt ps k).cps.toList else (partAt ps k).cps.toList
noncomputable def pieceL (ps : List Str) (st k : Nat) : List Nat := (if k = 0 then [] else gapL ps st k) ++ bodyL ps st k
noncomputable def textL (ps : List Str) (st : Nat) : Nat → Nat → List Nat
  | 0, _ => []
  | m + 1, k => pieceL ps st k ++ textL ps st m (k + 1)
theorem spell_succ (ps : List Str) (st k : Nat) : (spellTo ps st (k + 1)).cps.toList = (spellTo ps st k).cps.toList ++ pieceL ps st k := by
  unfold pieceL bodyL gapL
  rw [spellTo]
  split <;> split <;> simp only [PySem.Str.cps_append, Array.toList_append, zeros_eq, List.append_assoc, List.nil_append]
theorem spell_text (ps : List Str) (st : Nat) : ∀ m k, (spellTo ps st (k + m)).cps.toList = (spellTo ps st k).cps.toList ++ textL ps st m k
  | 0, k => by simp [textL]
  | m + 1, k => by
    rw [show k + (m + 1) = (k + 1) + m by omega, spell_text ps st m (k + 1), spell_succ, textL, List.append_assoc]
theorem spell_all (ps : List Str) (st n : Nat) : (spellTo ps st n).cps.toList = textL ps st n 0 := by
  have := spell_text ps st n 0
  rw [Nat.zero_add] at this
  rw [this]; rfl

theorem gap_cases (ps : List Str) (st k : Nat) : (gapL ps st k = [] ∧ figOf (partAt ps k) ≠ figOf (partAt ps (k - 1))) ∨ ∃ c, gapL ps st k = [c] ∧ isSep c = true ∧ Sre.isDigit c = false ∧ TokOk ⟨#[c]⟩ ∧ atomsOf ⟨#[c]⟩ = [] := by
  have sep : ∀ c, c ∈ [46, 45, 95, 43] → isSep c = true ∧ Sre.isDigit c = false ∧ TokOk ⟨#[c]⟩ ∧ atomsOf ⟨#[c]⟩ = [] := by
    intro c hc
    have hs : skipTok ⟨#[c]⟩ = true := by revert c; decide +kernel
    exact ⟨by revert c; decide +kernel, by revert c; decide +kernel, .inl hs, by unfold atomsOf; rw [hs]; rfl⟩
  unfold gapL gapAt
  by_cases hg : gaps.getD ((st + k) % 5) Str.empty = Str.ofString "" ∧ figOf (partAt ps k) = figOf (partAt ps (k - 1))
  · rw [if_pos hg]
    exact .inr ⟨46, rfl, sep 46 (by decide)⟩
  · rw [if_neg hg]
    rcases mod5 (st + k) with h | h | h | h | h <;> rw [h] at hg ⊢
    · exact .inl ⟨rfl, fun e => hg ⟨rfl, e⟩⟩
    · exact .inr ⟨46, rfl, sep 46 (by decide)⟩
    · exact .inr ⟨45, rfl, sep 45 (by decide)⟩
    · exact .inr ⟨95, rfl, sep 95 (by decide)⟩
    · exact .inr ⟨43, rfl, sep 43 (by decide)⟩
theorem tok_nil : TokOk ⟨#[]⟩ ∧ atomsOf ⟨#[]⟩ = [] := by
  have hs : skipTok ⟨#[]⟩ = true := by decide +kernel
  exact ⟨.inl hs, by unfold atomsOf; rw [hs]; rfl⟩
end Mine
end
section
open PySem PySem.W PyProof.Rows PySem.Calls
set_option Elab.async false
set_option linter.unusedVariables false
set_option maxRecDepth 100000
namespace Mine
theorem toArray_cps (p : Str) : (⟨p.cps.toList.toArray⟩ : Str) = p := by cases p; simp
theorem part_mem {ps : List Str} {k : Nat} (h : k < ps.length) : partAt ps k ∈ ps := by
  unfold partAt; rw [List.getD_eq_getElem?_getD, List.getElem?_eq_getElem h]; exact List.getElem_mem h
theorem drop_part {ps : List Str} {k : Nat} (h : k < ps.length) : ps.drop k = partAt ps k :: ps.drop (k + 1) := by
  rw [List.drop_eq_getElem_cons h]; unfold partAt; rw [List.getD_eq_getElem?_getD, List.getElem?_eq_getElem h]; rfl
theorem body_ne {ps : List Str} {st k : Nat} (hp : PartOk (partAt ps k)) : bodyL ps st k ≠ [] := by
  have : (partAt ps k).cps.toList ≠ [] := fun e => hp.size.1 (by rw [← Array.length_toList, e]; rfl)
  unfold bodyL
  split
  · intro e; exact this (List.append_eq_nil_iff.mp e).2
  · exact this
/-- behind a number no figure follows -/
theorem text_head {ps : List Str} {st m k : Nat} (hps : ∀ p ∈ ps, PartOk p) (hk : 1 ≤ k) (hm : k + m = ps.length) (hf : figOf (partAt ps (k - 1)) = true) : ∀ c r, textL ps st m k = c :: r → Sre.isDigit c = false := by
  intro c r e
  cases m with
  | zero => cases e
  | succ m =>
    rw [textL, pieceL, if_neg (by omega)] at e
    have hpo := hps _ (part_mem (show k < ps.length by omega))
    rcases gap_cases ps st k with ⟨hg, hne⟩ | ⟨g, hg, _, hd, _⟩
    · rw [hg, List.nil_append] at e
      rw [hf] at hne
      have hw : figOf (partAt ps k) = false := by cases q : figOf (partAt ps k) with | true => exact absurd q hne | false => rfl
      have hb : bodyL ps st k = (partAt ps k).cps.toList := by unfold bodyL; rw [hw]; rfl
      rw [hb] at e
      have hpl := (hpo.word hw).1
      cases q : (partAt ps k).cps.toList with
      | nil => exact absurd (by rw [← Array.length_toList, q]; rfl) hpo.size.1
      | cons a l =>
        rw [q] at e hpl
        rw [List.cons_append] at e
        injection e with e1 _
        subst e1
        rw [List.all_cons, Bool.and_eq_true] at hpl
        have := hpl.1
        unfold plainC at this
        cases z : Sre.isDigit a with
        | false => rfl
        | true => rw [z] at this; cases this
    · rw [hg] at e
      rw [List.append_assoc, List.cons_append] at e
      injection e with e1 _
      subst e1
      exact hd
noncomputable def pend (ps : List Str) (k : Nat) : List Nat := if figOf (partAt ps k) then [] else (partAt ps k).cps.toList
theorem pend_ok {ps : List Str} {k : Nat} (hp : PartOk (partAt ps k)) : (pend ps k).all plainC = true ∧ TokOk ⟨(pend ps k).toArray⟩ := by
  unfold pend
  cases q : figOf (partAt ps k) with
  | true => exact ⟨rfl, tok_nil.1⟩
  | false => exact ⟨(hp.word q).1, by simp only [Bool.false_eq_true, if_false]; rw [toArray_cps]; exact (hp.word q).2⟩
theorem told_body {t : Array Nat} {ps : List Str} {st k : Nat} {rest : List Nat} {as : List Atom} (hp : PartOk (partAt ps k)) (hrest : figOf (partAt ps k) = true → ∀ c r, rest = c :: r → Sre.isDigit c = false)
    (IH : ∀ p f, t.toList.drop p = pend ps k ++ rest → p ≤ t.size → t.size - p ≤ f → Told (toks t f p) (atomsOf ⟨(pend ps k).toArray⟩ ++ as))
    {p f : Nat} {w : List Nat} (hw : w.all plainC = true) (hwo : TokOk ⟨w.toArray⟩) (hor : figOf (partAt ps k) = true ∨ w = []) (h : t.toList.drop p = w ++ (bodyL ps st k ++ rest)) (hp0 : p ≤ t.size) (hf : t.size - p ≤ f) :
    Told (toks t f p) (atomsOf ⟨w.toArray⟩ ++ (atomsOf (partAt ps k) ++ as)) := by
  have hs := size_drop h hp0
  rw [List.length_append, List.length_append] at hs
  have hbl : 0 < (bodyL ps st k).length := List.length_pos_iff.mpr (body_ne hp)
  cases q : figOf (partAt ps k) with
  | true =>
    have hb : bodyL ps st k = List.replicate ((st + k) % 3) 48 ++ (partAt ps k).cps.toList := by unfold bodyL zerosL; rw [q]; rfl
    obtain ⟨hd, hj⟩ := hp.num q
    have hdig : (bodyL ps st k).all Sre.isDigit = true := by
      rw [hb, List.all_append, hd, Bool.and_true]
      rw [List.all_eq_true]; intro c hc; rw [(List.mem_replicate.mp hc).2]; rfl
    have hj' := hj ((st + k) % 3) (Nat.mod_lt _ (by decide))
    rw [← hb] at hj'
    obtain ⟨f', rfl⟩ : ∃ f', f = f' + 1 := ⟨f - 1, by omega⟩
    obtain ⟨e1, e2, e3⟩ := toks_num (f := f') h hp0 hw hdig (body_ne hp) (hrest q)
    rw [e1]
    have hpe : pend ps k = [] := by unfold pend; rw [q]; rfl
    have hI := IH (p + w.length + (bodyL ps st k).length) f' (by rw [hpe]; exact e2) e3 (by omega)
    rw [hpe, tok_nil.2, List.nil_append] at hI
    exact Told.cons hwo rfl (Told.cons hj'.1 hj'.2 hI)
  | false =>
    have hw0 : w = [] := hor.resolve_left (by rw [q]; exact Bool.false_ne_true)
    subst hw0
    have hb : bodyL ps st k = (partAt ps k).cps.toList := by unfold bodyL; rw [q]; rfl
    have hpe : pend ps k = (partAt ps k).cps.toList := by unfold pend; rw [q]; rfl
    rw [tok_nil.2, List.nil_append]
    have hI := IH p f (by rw [hpe, ← hb]; exact h) hp0 hf
    rw [hpe, toArray_cps] at hI
    exact hI
theorem told_from {t : Array Nat} {ps : List Str} {st : Nat} (hps : ∀ p ∈ ps, PartOk p) : ∀ m k, 1 ≤ k → k + m = ps.length → ∀ p f, t.toList.drop p = pend ps (k - 1) ++ textL ps st m k → p ≤ t.size → t.size - p ≤ f →
    Told (toks t f p) (atomsOf ⟨(pend ps (k - 1)).toArray⟩ ++ (ps.drop k).flatMap atomsOf)
  | 0, k, hk, hm, p, f, h, hp, hf => by
    have hpo := pend_ok (hps _ (part_mem (show k - 1 < ps.length by omega)))
    rw [textL, List.append_nil] at h
    rw [toks_end h hp hpo.1 f, List.drop_eq_nil_of_le (by omega), List.flatMap_nil, List.append_nil]
    exact Told.one hpo.2 rfl
  | m + 1, k, hk, hm, p, f, h, hp, hf => by
    have hpo := pend_ok (hps _ (part_mem (show k - 1 < ps.length by omega)))
    have hpk := hps _ (part_mem (show k < ps.length by omega))
    have IH := told_from (t := t) (st := st) hps m (k + 1) (by omega) (by omega)
    rw [Nat.add_sub_cancel] at IH
    have hrest := fun (q : figOf (partAt ps k) = true) => text_head (st := st) (m := m) (k := k + 1) hps (by omega) (by omega) (by rw [Nat.add_sub_cancel]; exact q)
    rw [textL, pieceL, if_neg (by omega)] at h
    rw [drop_part (show k < ps.length by omega), List.flatMap_cons]
    rcases gap_cases ps st k with ⟨hg, hne⟩ | ⟨g, hg, h1, h2, h3, h4⟩
    · rw [hg, List.nil_append] at h
      refine told_body hpk hrest IH hpo.1 hpo.2 ?_ h hp hf
      cases q : figOf (partAt ps k) with
      | true => exact .inl rfl
      | false =>
        right
        unfold pend
        cases z : figOf (partAt ps (k - 1)) with
        | true => rfl
        | false => rw [q, z] at hne; exact absurd rfl hne
    · rw [hg, List.append_assoc, List.cons_append, List.nil_append] at h
      have hs := size_drop h hp
      rw [List.length_append, List.length_cons] at hs
      obtain ⟨f', rfl⟩ : ∃ f', f = f' + 1 := ⟨f - 1, by omega⟩
      obtain ⟨e1, e2, e3⟩ := toks_sep (f := f') h hp hpo.1 h1 h2
      rw [e1]
      have hI := told_body hpk hrest IH (p := p + (pend ps (k - 1)).length + 1) (f := f') (w := []) rfl tok_nil.1 (.inr rfl) (by rw [List.nil_append]; exact e2) e3 (by omega)
      rw [tok_nil.2, List.nil_append] at hI
      exact Told.cons hpo.2 rfl (by have := Told.cons h3 h4 hI; rw [List.nil_append] at this; exact this)
/-- what a spelled label is told as -/
theorem told_spell {ps : List Str} (st : Nat) (hps : ∀ p ∈ ps, PartOk p) (hne : ps ≠ []) (hlen : ps.length ≤ 70) : LabOk (spellTo ps st ps.length) ∧ keyOf (spellTo ps st ps.length) = ps.flatMap atomsOf := by
  obtain ⟨n, hn⟩ : ∃ n, ps.length = n + 1 := ⟨ps.length - 1, by have := List.length_pos_iff.mpr hne; omega⟩
  have hp0 := hps _ (part_mem (show 0 < ps.length by omega))
  have htx : (spellTo ps st ps.length).cps.toList = [] ++ (bodyL ps st 0 ++ textL ps st n 1) := by
    rw [spell_all, hn, textL, pieceL, if_pos rfl, List.nil_append, List.nil_append]
  have IH := told_from (t := (spellTo ps st ps.length).cps) (st := st) hps n 1 (by omega) (by omega)
  have T : Told (toks (spellTo ps st ps.length).cps (spellTo ps st ps.length).cps.size 0) _ := told_body (p := 0) (w := []) (f := (spellTo ps st ps.length).cps.size) hp0 (fun q => text_head (st := st) (m := n) (k := 1) hps (by omega) (by omega) q) IH rfl tok_nil.1 (.inr rfl) (by rw [List.drop_zero]; exact htx) (Nat.zero_le _) (by omega)
  rw [tok_nil.2, List.nil_append] at T
  have hfm : ps.flatMap atomsOf = atomsOf (partAt ps 0) ++ (ps.drop 1).flatMap atomsOf := by
    have := drop_part (show 0 < ps.length by omega)
    rw [List.drop_zero] at this
    rw [← List.flatMap_cons, ← this]
  have hl := spell_len (fun p hp => (hps p hp).size) st ps.length
  refine ⟨⟨?_, T.1⟩, ?_⟩
  · show (spellTo ps st ps.length).length ≤ 1000; omega
  · unfold keyOf; rw [T.2, hfm]
end Mine
end
section
open PySem PySem.W PyProof.Rows PySem.Calls
set_option Elab.async false
set_option linter.unusedVariables false
set_option maxRecDepth 100000
namespace Mine
theorem word_part {p : Str} (h0 : p.cps.size ≠ 0 ∧ p.cps.size ≤ 10) (h1 : figOf p = false) (h2 : p.cps.toList.all plainC = true) (h3 : PySem.intText? p = none) (h4 : (numSeenOf p).length ≤ 640) (h5 : (int_private% "readNumeral") 0 10 (numSeenOf p) = int_private% "Numeral.invalid") (h6 : (reprText p).length ≤ sizeLine) : PartOk p :=
  ⟨h0, fun _ => ⟨h2, .inr (.inr ⟨h3, h4, h5, h6⟩)⟩, fun h => by rw [h1] at h; cases h⟩
theorem num_part {p : Str} {n : Int} (h0 : p.cps.size ≠ 0 ∧ p.cps.size ≤ 10) (h1 : figOf p = true) (h2 : p.cps.toList.all Sre.isDigit = true) (h3 : PySem.intText? p = some n) (hs : skipTok p = false)
    (k0 : PySem.intText? ⟨(List.replicate 1 48 ++ p.cps.toList).toArray⟩ = some n) (s0 : skipTok ⟨(List.replicate 1 48 ++ p.cps.toList).toArray⟩ = false)
    (k1 : PySem.intText? ⟨(List.replicate 2 48 ++ p.cps.toList).toArray⟩ = some n) (s1 : skipTok ⟨(List.replicate 2 48 ++ p.cps.toList).toArray⟩ = false) : PartOk p := by
  refine ⟨h0, fun h => ?_, fun _ => ⟨h2, fun j hj => ?_⟩⟩
  · rw [h1] at h; cases h
  have hlen : ∀ j, j < 3 → (⟨(List.replicate j 48 ++ p.cps.toList).toArray⟩ : Str).length ≤ 640 := by
    intro j hj
    show (List.replicate j 48 ++ p.cps.toList).toArray.size ≤ 640
    rw [List.size_toArray, List.length_append, List.length_replicate, Array.length_toList]; omega
  have ha : ∀ v : Str, PySem.intText? v = some n → skipTok v = false → atomsOf v = [.i 100, .i n] := fun v h k => by unfold atomsOf; rw [k, h]; rfl
  have e0 : (⟨(List.replicate 0 48 ++ p.cps.toList).toArray⟩ : Str) = p := toArray_cps p
  rcases j with _ | _ | _ | j
  · rw [e0]; exact ⟨.inr (.inl ⟨n, h3, by have := hlen 0 (by omega); rw [e0] at this; exact this⟩), rfl⟩
  · exact ⟨.inr (.inl ⟨n, k0, hlen 1 (by omega)⟩), by rw [ha _ k0 s0, ha _ h3 hs]⟩
  · exact ⟨.inr (.inl ⟨n, k1, hlen 2 (by omega)⟩), by rw [ha _ k1 s1, ha _ h3 hs]⟩
  · omega
end Mine
end
section
open PySem PySem.W PyProof.Rows PySem.Calls
set_option Elab.async false
set_option linter.unusedVariables false
set_option maxRecDepth 100000
namespace Mine
theorem okw_Rc : PartOk (Str.ofString "Rc") := word_part (by decide +kernel) (by decide +kernel) (by decide +kernel) (by decide +kernel) (by decide +kernel) (by kernel_rfl) (by decide +kernel)
theorem okw_devel : PartOk (Str.ofString "devel") := word_part (by decide +kernel) (by decide +kernel) (by decide +kernel) (by decide +kernel) (by decide +kernel) (by kernel_rfl) (by decide +kernel)
theorem okw_dev : PartOk (Str.ofString "dev") := word_part (by decide +kernel) (by decide +kernel) (by decide +kernel) (by decide +kernel) (by decide +kernel) (by kernel_rfl) (by decide +kernel)
theorem okw_a : PartOk (Str.ofString "a") := word_part (by decide +kernel) (by decide +kernel) (by decide +kernel) (by decide +kernel) (by decide +kernel) (by kernel_rfl) (by decide +kernel)
theorem okw_alpha : PartOk (Str.ofString "alpha") := word_part (by decide +kernel) (by decide +kernel) (by decide +kernel) (by decide +kernel) (by decide +kernel) (by kernel_rfl) (by decide +kernel)
theorem okw_beta : PartOk (Str.ofString "beta") := word_part (by decide +kernel) (by decide +kernel) (by decide +kernel) (by decide +kernel) (by decide +kernel) (by kernel_rfl) (by decide +kernel)
theorem okw_c : PartOk (Str.ofString "c") := word_part (by decide +kernel) (by decide +kernel) (by decide +kernel) (by decide +kernel) (by decide +kernel) (by kernel_rfl) (by decide +kernel)
theorem okw_rc : PartOk (Str.ofString "rc") := word_part (by decide +kernel) (by decide +kernel) (by decide +kernel) (by decide +kernel) (by decide +kernel) (by kernel_rfl) (by decide +kernel)
theorem okw_pl : PartOk (Str.ofString "pl") := word_part (by decide +kernel) (by decide +kernel) (by decide +kernel) (by decide +kernel) (by decide +kernel) (by kernel_rfl) (by decide +kernel)
theorem okn_1 : PartOk (Str.ofString "1") := num_part (n := 1) (by decide +kernel) (by decide +kernel) (by decide +kernel) (by decide +kernel) (by decide +kernel) (by decide +kernel) (by decide +kernel) (by decide +kernel) (by decide +kernel)
theorem okn_9 : PartOk (Str.ofString "9") := num_part (n := 9) (by decide +kernel) (by decide +kernel) (by decide +kernel) (by decide +kernel) (by decide +kernel) (by decide +kernel) (by decide +kernel) (by decide +kernel) (by decide +kernel)
theorem okn_10 : PartOk (Str.ofString "10") := num_part (n := 10) (by decide +kernel) (by decide +kernel) (by decide +kernel) (by decide +kernel) (by decide +kernel) (by decide +kernel) (by decide +kernel) (by decide +kernel) (by decide +kernel)
theorem okn_0 : PartOk (Str.ofString "0") := num_part (n := 0) (by decide +kernel) (by decide +kernel) (by decide +kernel) (by decide +kernel) (by decide +kernel) (by decide +kernel) (by decide +kernel) (by decide +kernel) (by decide +kernel)
theorem okn_2 : PartOk (Str.ofString "2") := num_part (n := 2) (by decide +kernel) (by decide +kernel) (by decide +kernel) (by decide +kernel) (by decide +kernel) (by decide +kernel) (by decide +kernel) (by decide +kernel) (by decide +kernel)
theorem all1 {P : Str → Prop} {a : Str} (h : P a) : ∀ p ∈ [a], P p := fun p hp => by rw [List.mem_singleton.mp hp]; exact h
theorem allc {P : Str → Prop} {a : Str} {l : List Str} (h : P a) (k : ∀ p ∈ l, P p) : ∀ p ∈ a :: l, P p := fun p hp => (List.mem_cons.mp hp).elim (fun e => e ▸ h) (k p)
theorem ver_parts : ∀ i, i < 16 → ∀ p ∈ ver i, PartOk p := by
  intro i hi
  obtain h | h | h | h | h | h | h | h | h | h | h | h | h | h | h | h : i = 0 ∨ i = 1 ∨ i = 2 ∨ i = 3 ∨ i = 4 ∨ i = 5 ∨ i = 6 ∨ i = 7 ∨ i = 8 ∨ i = 9 ∨ i = 10 ∨ i = 11 ∨ i = 12 ∨ i = 13 ∨ i = 14 ∨ i = 15 := lt16 i hi
  all_goals subst h
  · exact all1 okn_1
  · exact allc okn_1 (all1 okw_Rc)
  · exact allc okn_1 (all1 okw_devel)
  · exact allc okn_1 (all1 okw_dev)
  · exact allc okn_1 (allc okw_dev (all1 okn_9))
  · exact allc okn_1 (allc okw_dev (all1 okn_10))
  · exact allc okn_1 (all1 okw_a)
  · exact allc okn_1 (all1 okw_alpha)
  · exact allc okn_1 (all1 okw_beta)
  · exact allc okn_1 (all1 okw_c)
  · exact allc okn_1 (all1 okw_rc)
  · exact allc okn_1 (all1 okn_0)
  · exact allc okn_1 (all1 okn_9)
  · exact allc okn_1 (all1 okn_10)
  · exact allc okn_1 (all1 okw_pl)
  · exact all1 okn_2
noncomputable def vk (i : Nat) : List Atom := (ver i).flatMap atomsOf
noncomputable def compB : List Atom → List Atom → Bool
  | a :: as, b :: bs => a.alike b && (!decide (a = b) || compB as bs)
  | _, _ => true
theorem compB_comp : ∀ as bs : List Atom, compB as bs = true → Comp as bs
  | a :: as, b :: bs, h => by
    unfold compB at h
    rw [Bool.and_eq_true, Bool.or_eq_true] at h
    refine ⟨h.1, fun e => compB_comp as bs (h.2.resolve_left ?_)⟩
    simp [e]
  | [], [], _ => trivial
  | [], _ :: _, _ => trivial
  | _ :: _, [], _ => trivial
theorem vk_all : ∀ i, i < 16 → ∀ j, j < 16 → ((rowLt (vk i) (vk j) == decide (i < j)) && compB (vk i) (vk j)) = true := by decide +kernel
theorem vk_lt {i j : Nat} (hi : i < 16) (hj : j < 16) : Comp (vk i) (vk j) ∧ rowLt (vk i) (vk j) = decide (i < j) := by
  have h := vk_all i hi j hj
  rw [Bool.and_eq_true] at h
  exact ⟨compB_comp _ _ h.2, eq_of_beq h.1⟩
/-- a version, spelled -/
noncomputable def spell (i st : Nat) : Str := spellTo (ver i) st (ver i).length
theorem spell_ok {i st : Nat} (hi : i < 16) : LabOk (spell i st) ∧ keyOf (spell i st) = vk i :=
  told_spell st (ver_parts i hi) (ver_ne i hi) (by have := ver_len i hi; omega)
end Mine
end
section
set_option Elab.async false
set_option linter.unusedVariables false
namespace Mine
inductive Front (ws : List (Nat × Nat)) : Nat → List Nat → Prop
  | nil {b : Nat} (h : ∀ v ∈ ws, v.1 < b) : Front ws b []
  | cons {b : Nat} {l : List Nat} {v : Nat × Nat} (hv : v ∈ ws) (h1 : b ≤ v.1) (h2 : ∀ u ∈ ws, b ≤ u.1 → v.2 ≤ u.2) (h : Front ws v.2 l) : Front ws b ((v.2 - 1) :: l)
inductive Back (ws : List (Nat × Nat)) : Nat → List Nat → Prop
  | nil {e : Nat} (h : ∀ v ∈ ws, e < v.2) : Back ws e []
  | cons {e : Nat} {l : List Nat} {v : Nat × Nat} (hv : v ∈ ws) (h1 : v.2 ≤ e) (h2 : ∀ u ∈ ws, u.2 ≤ e → u.1 ≤ v.1) (h : Back ws v.1 l) : Back ws e (v.1 :: l)
noncomputable abbrev sw (p : Nat × Nat) : Nat × Nat := (p.2, p.1)
/-- the table of the law's third walk -/
noncomputable def Most (ps : List (Nat × Nat)) (mo : List Nat) : Prop :=
  mo[0]? = some 0 ∧ ∀ (j : Nat) (p : Nat × Nat), j + 1 < mo.length → ps[j]? = some p → ∃ r x y, (∀ (m : Nat) (q : Nat × Nat), ps[m]? = some q → (p.2 < q.1 ↔ r ≤ m)) ∧ r ≤ j ∧ mo[r]? = some x ∧ mo[j]? = some y ∧ mo[j + 1]? = some (max y (x + 1))
noncomputable abbrev Inc (c : List Nat) : Prop := c.Pairwise (· < ·)
noncomputable abbrev Stab (c : List Nat) (v : Nat × Nat) : Prop := ∃ q ∈ c, v.1 ≤ q ∧ q < v.2
theorem inc_split : ∀ {c : List Nat}, Inc c → ∀ t, c = c.filter (fun q => decide (q < t)) ++ c.filter (fun q => decide (t ≤ q))
  | [], _, t => rfl
  | a :: c, h, t => by
    obtain ⟨h1, h2⟩ := List.pairwise_cons.mp h
    by_cases e : a < t
    · rw [List.filter_cons, List.filter_cons, if_pos (decide_eq_true e), if_neg (by simp; omega), List.cons_append, ← inc_split h2 t]
    · have hall : c.filter (fun q => decide (q < t)) = [] := List.filter_eq_nil_iff.mpr fun q hq => by have := h1 q hq; simp; omega
      have hall2 : c.filter (fun q => decide (t ≤ q)) = c := List.filter_eq_self.mpr fun q hq => by have := h1 q hq; simp; omega
      rw [List.filter_cons, List.filter_cons, if_neg (by simp; omega), if_pos (decide_eq_true (by omega)), hall, hall2, List.nil_append]
theorem front_low {ws : List (Nat × Nat)} {b : Nat} {f : List Nat} (h : Front ws b f) : ∀ c, Inc c → (∀ v ∈ ws, b ≤ v.1 → Stab c v) →
    f.length ≤ c.length ∧ (c.length = f.length → ∀ (k x y : Nat), c[k]? = some x → f[k]? = some y → x ≤ y) ∧ (c.length = f.length → ∀ (k x y : Nat), c[k + 1]? = some x → f[k]? = some y → y < x) := by
  induction h with
  | nil h => exact fun c _ _ => ⟨Nat.zero_le _, fun _ k x y _ hy => by simp at hy, fun _ k x y _ hy => by simp at hy⟩
  | @cons b l v hv h1 h2 h ih =>
    intro c hc hh
    have hsp := inc_split hc v.2
    have hc' : Inc (c.filter fun q => decide (v.2 ≤ q)) := hc.filter _
    obtain ⟨i1, i2, i3⟩ := ih (c.filter fun q => decide (v.2 ≤ q)) hc' (fun u hu hb => by
      obtain ⟨q, hq, a1, a2⟩ := hh u hu (by
        by_cases e : b ≤ u.1
        · exact e
        · exfalso
          have := hh v hv h1
          obtain ⟨q, _, b1, b2⟩ := this
          omega)
      exact ⟨q, List.mem_filter.mpr ⟨hq, decide_eq_true (by omega)⟩, a1, a2⟩)
    obtain ⟨q, hq, a1, a2⟩ := hh v hv h1
    have hq1 : q ∈ c.filter fun q => decide (q < v.2) := List.mem_filter.mpr ⟨hq, decide_eq_true a2⟩
    have hlen : c.length = (c.filter fun q => decide (q < v.2)).length + (c.filter fun q => decide (v.2 ≤ q)).length := by
      rw [← List.length_append, ← hsp]
    have hpos : 1 ≤ (c.filter fun q => decide (q < v.2)).length := List.length_pos_iff.mpr fun e => by rw [e] at hq1; cases hq1
    have one : c.length = ((v.2 - 1) :: l).length → ∃ q0, q0 < v.2 ∧ c = q0 :: c.filter (fun q => decide (v.2 ≤ q)) ∧ (c.filter fun q => decide (v.2 ≤ q)).length = l.length := by
      intro e
      rw [List.length_cons] at e
      have e1 : (c.filter fun q => decide (q < v.2)).length = 1 := by omega
      obtain ⟨q0, hq0⟩ := List.length_eq_one_iff.mp e1
      refine ⟨q0, ?_, ?_, by omega⟩
      · have : q0 ∈ c.filter fun q => decide (q < v.2) := by rw [hq0]; exact .head _
        exact of_decide_eq_true (List.mem_filter.mp this).2
      · rw [hq0] at hsp; exact hsp
    refine ⟨by rw [List.length_cons]; omega, fun e k x y hx hy => ?_, fun e k x y hx hy => ?_⟩
    · obtain ⟨q0, hq0, hce, hl⟩ := one e
      rw [hce] at hx
      cases k with
      | zero => simp at hx hy; omega
      | succ k => simp only [List.getElem?_cons_succ] at hx hy; exact i2 hl k x y hx hy
    · obtain ⟨q0, hq0, hce, hl⟩ := one e
      rw [hce] at hx
      simp only [List.getElem?_cons_succ] at hx
      cases k with
      | zero =>
        simp at hy
        have := of_decide_eq_true (List.mem_filter.mp (List.mem_of_getElem? hx)).2
        omega
      | succ k => simp only [List.getElem?_cons_succ] at hy; exact i3 hl k x y hx hy
theorem front_is {ws : List (Nat × Nat)} (hval : ∀ v ∈ ws, v.1 < v.2) {b : Nat} {f : List Nat} (h : Front ws b f) : Inc f ∧ (∀ q ∈ f, b ≤ q ∧ ∃ v ∈ ws, q < v.2) ∧ ∀ u ∈ ws, b ≤ u.1 → Stab f u := by
  induction h with
  | nil h => exact ⟨.nil, (fun q hq => by cases hq), fun u hu hb => by have := h u hu; omega⟩
  | @cons b l v hv h1 h2 h ih =>
    obtain ⟨i1, i2, i3⟩ := ih
    have hvv := hval v hv
    refine ⟨List.pairwise_cons.mpr ⟨fun q hq => by have := (i2 q hq).1; omega, i1⟩, fun q hq => ?_, fun u hu hb => ?_⟩
    · rcases List.mem_cons.mp hq with rfl | hq
      · exact ⟨by omega, v, hv, by omega⟩
      · exact ⟨by have := (i2 q hq).1; omega, (i2 q hq).2⟩
    · by_cases e : v.2 ≤ u.1
      · obtain ⟨q, hq, a⟩ := i3 u hu e
        exact ⟨q, .tail _ hq, a⟩
      · have := h2 u hu hb
        exact ⟨v.2 - 1, .head _, by omega, by omega⟩
theorem back_low {ws : List (Nat × Nat)} {e₀ : Nat} {l : List Nat} (h : Back ws e₀ l) : ∀ c, Inc c → (∀ v ∈ ws, v.2 ≤ e₀ → Stab c v) →
    l.length ≤ c.length ∧ (c.length = l.length → ∀ (k x y : Nat), c[k]? = some x → l.reverse[k]? = some y → y ≤ x) := by
  induction h with
  | nil h => exact fun c _ _ => ⟨Nat.zero_le _, fun _ k x y _ hy => by simp at hy⟩
  | @cons e₀ l v hv h1 h2 h ih =>
    intro c hc hh
    have hsp := inc_split hc v.1
    have hc' : Inc (c.filter fun q => decide (q < v.1)) := hc.filter _
    obtain ⟨q, hq, a1, a2⟩ := hh v hv h1
    obtain ⟨i1, i2⟩ := ih (c.filter fun q => decide (q < v.1)) hc' (fun u hu hb => by
      obtain ⟨q', hq', b1, b2⟩ := hh u hu (by omega)
      exact ⟨q', List.mem_filter.mpr ⟨hq', decide_eq_true (by omega)⟩, b1, b2⟩)
    have hq1 : q ∈ c.filter fun q => decide (v.1 ≤ q) := List.mem_filter.mpr ⟨hq, decide_eq_true a1⟩
    have hlen : c.length = (c.filter fun q => decide (q < v.1)).length + (c.filter fun q => decide (v.1 ≤ q)).length := by
      rw [← List.length_append, ← hsp]
    have hpos : 1 ≤ (c.filter fun q => decide (v.1 ≤ q)).length := List.length_pos_iff.mpr fun e => by rw [e] at hq1; cases hq1
    refine ⟨by rw [List.length_cons]; omega, fun e k x y hx hy => ?_⟩
    rw [List.length_cons] at e
    have e1 : (c.filter fun q => decide (v.1 ≤ q)).length = 1 := by omega
    obtain ⟨q0, hq0⟩ := List.length_eq_one_iff.mp e1
    have hq0' : v.1 ≤ q0 := by
      have : q0 ∈ c.filter fun q => decide (v.1 ≤ q) := by rw [hq0]; exact .head _
      exact of_decide_eq_true (List.mem_filter.mp this).2
    have hl : (c.filter fun q => decide (q < v.1)).length = l.length := by omega
    rw [hq0] at hsp
    rw [hsp] at hx
    rw [List.reverse_cons] at hy
    by_cases hk : k < l.length
    · rw [List.getElem?_append_left (by omega)] at hx
      rw [List.getElem?_append_left (by rw [List.length_reverse]; exact hk)] at hy
      exact i2 hl k x y hx hy
    · have hk2 := (List.getElem?_eq_some_iff.mp hy).1
      rw [List.length_append, List.length_reverse, List.length_singleton] at hk2
      have hke : k = l.length := by omega
      subst hke
      rw [List.getElem?_append_right (by omega), hl, Nat.sub_self] at hx
      rw [List.getElem?_append_right (by rw [List.length_reverse]; exact Nat.le_refl _), List.length_reverse, Nat.sub_self] at hy
      simp at hx hy
      omega
theorem back_is {ws : List (Nat × Nat)} (hval : ∀ v ∈ ws, v.1 < v.2) {e₀ : Nat} {l : List Nat} (h : Back ws e₀ l) : Inc l.reverse ∧ (∀ q ∈ l, q < e₀) ∧ ∀ u ∈ ws, u.2 ≤ e₀ → Stab l u := by
  induction h with
  | nil h => exact ⟨.nil, (fun q hq => by cases hq), fun u hu hb => by have := h u hu; omega⟩
  | @cons e₀ l v hv h1 h2 h ih =>
    obtain ⟨i1, i2, i3⟩ := ih
    have hvv := hval v hv
    refine ⟨?_, fun q hq => ?_, fun u hu hb => ?_⟩
    · rw [List.reverse_cons]
      refine List.pairwise_append.mpr ⟨i1, List.pairwise_singleton _ _, fun a ha b hb => ?_⟩
      rw [List.mem_singleton.mp hb]
      exact i2 a (List.mem_reverse.mp ha)
    · rcases List.mem_cons.mp hq with rfl | hq
      · omega
      · have := i2 q hq; omega
    · by_cases e : u.2 ≤ v.1
      · obtain ⟨q, hq, a⟩ := i3 u hu e
        exact ⟨q, .tail _ hq, a⟩
      · have := h2 u hu hb
        exact ⟨v.1, .head _, by omega, by omega⟩
/-- the k-th places of the fewest -/
theorem mix {ws : List (Nat × Nat)} (hval : ∀ v ∈ ws, v.1 < v.2) {B : Nat} (hB : ∀ v ∈ ws, v.2 ≤ B) {f l : List Nat} (hf : Front ws 0 f) (hl : Back ws B l) :
    l.length = f.length ∧ (∀ c, Inc c → (∀ v ∈ ws, Stab c v) → f.length ≤ c.length) ∧
    ∀ (k x y p : Nat), f[k]? = some y → l.reverse[k]? = some x → ((x ≤ p ∧ p ≤ y) ↔ ∃ c, Inc c ∧ (∀ v ∈ ws, Stab c v) ∧ (∀ q ∈ c, ∃ v ∈ ws, q < v.2) ∧ c.length = f.length ∧ c[k]? = some p) := by
  obtain ⟨f1, f2, f3⟩ := front_is hval hf
  obtain ⟨b1, b2, b3⟩ := back_is hval hl
  have f3' : ∀ v ∈ ws, Stab f v := fun v hv => f3 v hv (Nat.zero_le _)
  have b3' : ∀ v ∈ ws, Stab l.reverse v := fun v hv => by
    obtain ⟨q, hq, a⟩ := b3 v hv (hB v hv)
    exact ⟨q, List.mem_reverse.mpr hq, a⟩
  have hA := front_low hf l.reverse b1 fun v hv _ => b3' v hv
  have hC := back_low hl f f1 fun v hv _ => f3' v hv
  have hlen : l.length = f.length := by have := hA.1; have := hC.1; rw [List.length_reverse] at *; omega
  refine ⟨hlen, fun c hc hh => (front_low hf c hc fun v hv _ => hh v hv).1, fun k x y p hy hx => ⟨fun hp => ?_, ?_⟩⟩
  · have hkf := (List.getElem?_eq_some_iff.mp hy).1
    have hbn : ∀ (j z : Nat), k < j → l.reverse[j]? = some z → y < z := fun j z hj hz => by
      have hzz := (List.getElem?_eq_some_iff.mp hz).1
      have hk1 : k + 1 < l.reverse.length := Nat.lt_of_le_of_lt hj hzz
      have h1 : y < l.reverse[k + 1]'hk1 := hA.2.2 (by rw [List.length_reverse]; exact hlen) k _ y (List.getElem?_eq_getElem hk1) hy
      by_cases e : j = k + 1
      · subst e
        rw [List.getElem?_eq_getElem hk1] at hz; cases hz; exact h1
      · have := List.pairwise_iff_getElem.mp b1 (k + 1) j hk1 hzz (Nat.lt_of_le_of_ne hj fun e' => e e'.symm)
        rw [List.getElem?_eq_getElem hzz] at hz; cases hz; exact Nat.lt_trans h1 this
    have hfn : ∀ (i z : Nat), i < k → f[i]? = some z → z < x := fun i z hi hz => by
      have hxx := (List.getElem?_eq_some_iff.mp hx).1
      have hi1 : i + 1 < l.reverse.length := Nat.lt_of_le_of_lt hi hxx
      have h1 := hA.2.2 (by rw [List.length_reverse]; exact hlen) i (l.reverse[i + 1]'hi1) z (List.getElem?_eq_getElem hi1) hz
      by_cases e : i + 1 = k
      · subst e
        rw [List.getElem?_eq_getElem hxx] at hx; cases hx; exact h1
      · have := List.pairwise_iff_getElem.mp b1 (i + 1) k hi1 hxx (Nat.lt_of_le_of_ne hi e)
        rw [List.getElem?_eq_getElem hxx] at hx; cases hx; exact Nat.lt_trans h1 this
    have hxy : x ≤ y := Nat.le_trans hp.1 hp.2
    refine ⟨f.take k ++ p :: l.reverse.drop (k + 1), ?_, ?_, ?_, ?_, ?_⟩
    · refine List.pairwise_append.mpr ⟨f1.sublist (List.take_sublist _ _), List.pairwise_cons.mpr ⟨fun a ha => ?_, b1.sublist (List.drop_sublist _ _)⟩, fun a ha b hb => ?_⟩
      · obtain ⟨j, hj, e⟩ := mem_drop_ix ha
        exact Nat.lt_of_le_of_lt hp.2 (hbn j a hj e)
      · obtain ⟨i, hi, e⟩ := mem_take_ix ha
        have h1 := hfn i a hi e
        rcases List.mem_cons.mp hb with rfl | hb
        · exact Nat.lt_of_lt_of_le h1 hp.1
        · obtain ⟨j, hj, e2⟩ := mem_drop_ix hb
          exact Nat.lt_of_lt_of_le h1 (Nat.le_trans hp.1 (Nat.le_trans hp.2 (Nat.le_of_lt (hbn j b hj e2))))
    · intro v hv
      obtain ⟨q, hq, q1, q2⟩ := f3' v hv
      obtain ⟨i, hi⟩ := List.getElem?_of_mem hq
      by_cases e : i < k
      · exact ⟨q, List.mem_append_left _ (List.mem_of_getElem? (i := i) (by rw [List.getElem?_take, if_pos e]; exact hi)), q1, q2⟩
      · obtain ⟨q', hq', r1, r2⟩ := b3' v hv
        obtain ⟨j, hj⟩ := List.getElem?_of_mem hq'
        by_cases e2 : k < j
        · exact ⟨q', List.mem_append_right _ (.tail _ (List.mem_of_getElem? (i := j - (k + 1)) (by rw [List.getElem?_drop, show k + 1 + (j - (k + 1)) = j from Nat.add_sub_cancel' e2]; exact hj))), r1, r2⟩
        · refine ⟨p, List.mem_append_right _ (.head _), ?_, ?_⟩
          · have hxx := (List.getElem?_eq_some_iff.mp hx).1
            have hjj := (List.getElem?_eq_some_iff.mp hj).1
            have : q' ≤ x := by
              by_cases e3 : j = k
              · subst e3; rw [hj] at hx; cases hx; exact Nat.le_refl _
              · have := List.pairwise_iff_getElem.mp b1 j k hjj hxx (Nat.lt_of_le_of_ne (Nat.le_of_not_lt e2) e3)
                rw [List.getElem?_eq_getElem hjj] at hj; rw [List.getElem?_eq_getElem hxx] at hx
                cases hj; cases hx; exact Nat.le_of_lt this
            exact Nat.le_trans r1 (Nat.le_trans this hp.1)
          · have hii := (List.getElem?_eq_some_iff.mp hi).1
            have : y ≤ q := by
              by_cases e3 : i = k
              · subst e3; rw [hi] at hy; cases hy; exact Nat.le_refl _
              · have := List.pairwise_iff_getElem.mp f1 k i hkf hii (Nat.lt_of_le_of_ne (Nat.le_of_not_lt e) fun e' => e3 e'.symm)
                rw [List.getElem?_eq_getElem hii] at hi; rw [List.getElem?_eq_getElem hkf] at hy
                cases hi; cases hy; exact Nat.le_of_lt this
            exact Nat.lt_of_le_of_lt hp.2 (Nat.lt_of_le_of_lt this q2)
    · intro q hq
      rcases List.mem_append.mp hq with hq | hq
      · exact (f2 q (List.mem_of_mem_take hq)).2
      · rcases List.mem_cons.mp hq with rfl | hq
        · obtain ⟨v, hv, h3⟩ := (f2 y (List.mem_of_getElem? hy)).2
          exact ⟨v, hv, Nat.lt_of_le_of_lt hp.2 h3⟩
        · have hql := List.mem_of_mem_drop hq
          obtain ⟨j, hj, e⟩ := mem_drop_ix hq
          have hjj := (List.getElem?_eq_some_iff.mp e).1
          rw [List.length_reverse] at hjj
          have hjf : j < f.length := Nat.lt_of_lt_of_le hjj (Nat.le_of_eq hlen)
          have := hC.2 hlen.symm j (f[j]'hjf) q (List.getElem?_eq_getElem hjf) e
          obtain ⟨v, hv, h3⟩ := (f2 (f[j]'hjf) (List.getElem_mem _)).2
          exact ⟨v, hv, Nat.lt_of_le_of_lt this h3⟩
    · rw [List.length_append, List.length_cons, List.length_take, List.length_drop, List.length_reverse]
      have hxx := (List.getElem?_eq_some_iff.mp hx).1
      rw [List.length_reverse] at hxx
      omega
    · rw [List.getElem?_append_right (by rw [List.length_take]; omega), List.length_take, Nat.min_eq_left (by omega), Nat.sub_self]; rfl
  · rintro ⟨c, hc, hh, _, hcl, hck⟩
    have h1 := (front_low hf c hc fun v hv _ => hh v hv).2.1 hcl k p y hck hy
    have h2 := (back_low hl c hc fun v hv _ => hh v hv).2 (by omega) k p x hck hx
    exact ⟨h2, h1⟩
end Mine
end
section
set_option Elab.async false
set_option linter.unusedVariables false
namespace Mine
theorem inc_ext : ∀ {c d : List Nat}, Inc c → Inc d → (∀ q, q ∈ c ↔ q ∈ d) → c = d
  | [], [], _, _, _ => rfl
  | [], b :: d, _, _, h => by have := (h b).mpr (.head _); cases this
  | a :: c, [], _, _, h => by have := (h a).mp (.head _); cases this
  | a :: c, b :: d, hc, hd, h => by
    obtain ⟨c1, c2⟩ := List.pairwise_cons.mp hc
    obtain ⟨d1, d2⟩ := List.pairwise_cons.mp hd
    have hab : a = b := by
      rcases List.mem_cons.mp ((h a).mp (.head _)) with e | e
      · exact e
      · rcases List.mem_cons.mp ((h b).mpr (.head _)) with e2 | e2
        · exact e2.symm
        · have := c1 b e2; have := d1 a e; omega
    subst hab
    rw [inc_ext c2 d2 fun q => ⟨fun hq => ?_, fun hq => ?_⟩]
    · rcases List.mem_cons.mp ((h q).mp (.tail _ hq)) with e | e
      · have := c1 q hq; omega
      · exact e
    · rcases List.mem_cons.mp ((h q).mpr (.tail _ hq)) with e | e
      · have := d1 q hq; omega
      · exact e
noncomputable def meets (num : Nat) (p : Nat × Nat) : Bool := decide (num / 2 ^ p.1 % 2 ^ (p.2 - p.1) ≠ 0)
noncomputable def places (num size : Nat) : List Nat := (List.range size).filter fun k => decide (num / 2 ^ k % 2 = 1)
noncomputable def fits (size : Nat) (ws : List (Nat × Nat)) (i : Nat) : List (List Nat) := ((List.range i).filter fun num => ws.all (meets num)).map fun num => places num size
theorem meets_all : ∀ num, num < 64 → ∀ b, b < 6 → ∀ e, e < 7 → b < e → decide (num / 2 ^ b % 2 ^ (e - b) ≠ 0) = (List.range 6).any (fun q => decide (b ≤ q) && decide (q < e) && decide (num / 2 ^ q % 2 = 1)) := by decide +kernel
theorem meets_iff {num : Nat} (hn : num < 64) {p : Nat × Nat} (h1 : p.1 < p.2) (h2 : p.2 ≤ 6) : meets num p = true ↔ ∃ q, p.1 ≤ q ∧ q < p.2 ∧ num / 2 ^ q % 2 = 1 := by
  unfold meets
  rw [meets_all num hn p.1 (by omega) p.2 (by omega) h1, List.any_eq_true]
  constructor
  · rintro ⟨q, _, hq⟩
    simp only [Bool.and_eq_true, decide_eq_true_eq] at hq
    exact ⟨q, hq.1.1, hq.1.2, hq.2⟩
  · rintro ⟨q, a, b, c⟩
    exact ⟨q, List.mem_range.mpr (by omega), by simp only [Bool.and_eq_true, decide_eq_true_eq]; exact ⟨⟨a, b⟩, c⟩⟩
noncomputable def numL (n : Nat) (l : List Bool) : Nat := ((List.range n).map fun q => if l.getD q false = true then 2 ^ q else 0).sum
theorem numL_all : ∀ b0 b1 b2 b3 b4 b5 : Bool, ∀ n, n < 7 → numL n [b0, b1, b2, b3, b4, b5] < 2 ^ n ∧ ∀ q, q < n → decide (numL n [b0, b1, b2, b3, b4, b5] / 2 ^ q % 2 = 1) = [b0, b1, b2, b3, b4, b5].getD q false := by decide +kernel
theorem num_of (g : Nat → Bool) {n : Nat} (hn : n ≤ 6) : ∃ num, num < 2 ^ n ∧ ∀ q, q < n → (num / 2 ^ q % 2 = 1 ↔ g q = true) := by
  obtain ⟨h1, h2⟩ := numL_all (g 0) (g 1) (g 2) (g 3) (g 4) (g 5) n (by omega)
  refine ⟨_, h1, fun q hq => ?_⟩
  have e : [g 0, g 1, g 2, g 3, g 4, g 5].getD q false = g q := by
    rcases q with _ | _ | _ | _ | _ | _ | q
    all_goals first | rfl | omega
  rw [← e, ← h2 q hq]; exact decide_eq_true_iff.symm
theorem places_inc (num n : Nat) : Inc (places num n) := List.pairwise_lt_range.filter _
theorem mem_places {num n q : Nat} : q ∈ places num n ↔ q < n ∧ num / 2 ^ q % 2 = 1 := by
  unfold places; rw [List.mem_filter, List.mem_range, decide_eq_true_iff]
theorem fits_iff {n : Nat} (hn : n ≤ 6) {ws : List (Nat × Nat)} (hval : ∀ v ∈ ws, v.1 < v.2 ∧ v.2 ≤ n) (c : List Nat) : c ∈ fits n ws (2 ^ n) ↔ Inc c ∧ (∀ q ∈ c, q < n) ∧ ∀ v ∈ ws, Stab c v := by
  have h64 : 2 ^ n ≤ 64 := Nat.pow_le_pow_right (n := 2) (by decide) hn
  have key : ∀ num, num < 2 ^ n → (ws.all (meets num) = true ↔ ∀ v ∈ ws, Stab (places num n) v) := fun num hnum => by
    rw [List.all_eq_true]
    refine forall_congr' fun v => forall_congr' fun hv => ?_
    have hvv := hval v hv
    rw [meets_iff (by omega) hvv.1 (by omega)]
    constructor
    · rintro ⟨q, a, b, d⟩
      exact ⟨q, mem_places.mpr ⟨by omega, d⟩, a, b⟩
    · rintro ⟨q, hq, a, b⟩
      exact ⟨q, a, b, (mem_places.mp hq).2⟩
  unfold fits
  rw [List.mem_map]
  constructor
  · rintro ⟨num, hnum, rfl⟩
    rw [List.mem_filter, List.mem_range] at hnum
    exact ⟨places_inc _ _, fun q hq => (mem_places.mp hq).1, (key num hnum.1).mp hnum.2⟩
  · rintro ⟨h1, h2, h3⟩
    obtain ⟨num, hnum, hb⟩ := num_of (fun q => decide (q ∈ c)) hn
    have e : places num n = c := inc_ext (places_inc _ _) h1 fun q => by
      rw [mem_places]
      constructor
      · rintro ⟨a, b⟩; exact of_decide_eq_true ((hb q a).mp b)
      · intro hq; exact ⟨h2 q hq, (hb q (h2 q hq)).mpr (decide_eq_true hq)⟩
    refine ⟨num, List.mem_filter.mpr ⟨List.mem_range.mpr hnum, (key num hnum).mpr ?_⟩, e⟩
    rw [e]; exact h3
theorem most_mono {ps : List (Nat × Nat)} {mo : List Nat} (h : Most ps mo) (hl : mo.length = ps.length + 1) : ∀ (d i y z : Nat), mo[i]? = some y → mo[i + d]? = some z → y ≤ z
  | 0, i, y, z, hy, hz => by rw [Nat.add_zero, hy] at hz; cases hz; exact Nat.le_refl _
  | d + 1, i, y, z, hy, hz => by
    have hlt := (List.getElem?_eq_some_iff.mp hz).1
    obtain ⟨p, hp⟩ : ∃ p, ps[i + d]? = some p := ⟨_, List.getElem?_eq_getElem (by omega)⟩
    obtain ⟨r, x, y', _, _, _, e2, e3⟩ := h.2 (i + d) p (by omega) hp
    rw [show i + (d + 1) = i + d + 1 by omega, e3] at hz
    have := most_mono h hl d i y y' hy e2
    cases hz; omega
theorem most_le {ps : List (Nat × Nat)} {mo f : List Nat} (h : Most ps mo) (hl : mo.length = ps.length + 1) (hf : ∀ p ∈ ps, ∃ q ∈ f, p.2 ≤ q ∧ q < p.1) (hlex : Lex ps) : ∀ (i z : Nat), mo[i]? = some z → ∀ t, (∀ (j : Nat) (p : Nat × Nat), j < i → ps[j]? = some p → p.1 ≤ t) → z ≤ (f.filter fun q => decide (q < t)).length := by
  intro i
  induction i using Nat.strongRecOn with
  | ind i ih =>
    intro z hz t ht
    cases i with
    | zero => rw [h.1] at hz; cases hz; exact Nat.zero_le _
    | succ i =>
      have hlt := (List.getElem?_eq_some_iff.mp hz).1
      obtain ⟨p, hp⟩ : ∃ p, ps[i]? = some p := ⟨_, List.getElem?_eq_getElem (by omega)⟩
      obtain ⟨r, x, y, e0, e1, e2, e3, e4⟩ := h.2 i p hlt hp
      rw [e4] at hz; cases hz
      have h1 := ih i (by omega) y e3 t fun j q hj hq => ht j q (by omega) hq
      have h2 := ih r (by omega) x e2 p.2 fun j q hj hq => by
        have := e0 j q hq; omega
      have h3 : (f.filter fun q => decide (q < p.2)).length + 1 ≤ (f.filter fun q => decide (q < t)).length := by
        obtain ⟨q, hq, q1, q2⟩ := hf p (List.mem_of_getElem? hp)
        have hpt := ht i p (by omega) hp
        have : (f.filter fun q => decide (q < p.2)) = (f.filter fun q => decide (q < t)).filter fun q => decide (q < p.2) := by
          rw [List.filter_filter]
          refine List.filter_congr fun a _ => ?_
          by_cases ha : a < p.2
          · simp [ha]; omega
          · simp [ha]
        rw [this]
        have hlt : ((f.filter fun q => decide (q < t)).filter fun q => decide (q < p.2)).length < (f.filter fun q => decide (q < t)).length := by
          refine Nat.lt_of_le_of_ne (List.length_filter_le _ _) fun e => ?_
          rw [List.length_filter_eq_length_iff] at e
          have := of_decide_eq_true (e q (List.mem_filter.mpr ⟨hq, decide_eq_true (by omega)⟩))
          omega
        exact hlt
      omega
theorem most_ge {ws ps : List (Nat × Nat)} {mo : List Nat} (h : Most ps mo) (hl : mo.length = ps.length + 1) (hperm : ps.Perm (ws.map sw)) (hlex : Lex ps) (hval : ∀ v ∈ ws, v.1 < v.2) {b : Nat} {f : List Nat} (hf : Front ws b f) :
    ∀ (i z x : Nat), i ≤ ps.length → (∀ (j : Nat) (q : Nat × Nat), ps[j]? = some q → (b < q.1 ↔ i ≤ j)) → mo[i]? = some z → mo[ps.length]? = some x → z + f.length ≤ x := by
  induction hf with
  | nil _ => exact fun i z x hi _ hz hx => most_mono h hl (ps.length - i) i z x hz (by rw [show i + (ps.length - i) = ps.length by omega]; exact hx)
  | @cons b l v hv h1 h2 hf ih =>
    intro i z x hi hcut hz hx
    obtain ⟨j, hj⟩ := List.getElem?_of_mem (hperm.mem_iff.mpr (List.mem_map.mpr ⟨v, hv, rfl⟩))
    have hjl := (List.getElem?_eq_some_iff.mp hj).1
    have hvv := hval v hv
    obtain ⟨r, x', y, e0, e1, e2, e3, e4⟩ := h.2 j (sw v) (by omega) hj
    obtain ⟨i1, hi1, hc1⟩ := fst_right hlex v.2
    have hir : i ≤ r := by
      by_cases hh : r < i
      · exfalso
        obtain ⟨q, hq⟩ : ∃ q, ps[r]? = some q := ⟨_, List.getElem?_eq_getElem (by omega)⟩
        have a1 := hcut r q hq
        have a2 := e0 r q hq
        have a3 : (sw v).2 = v.1 := rfl
        omega
      · omega
    have hji : j + 1 ≤ i1 := by
      have a1 := hc1 j (sw v) hj
      have a2 : (sw v).1 = v.2 := rfl
      omega
    obtain ⟨z1, hz1⟩ : ∃ z1, mo[i1]? = some z1 := ⟨_, List.getElem?_eq_getElem (by omega)⟩
    have m1 := most_mono h hl (r - i) i z x' hz (by rw [show i + (r - i) = r by omega]; exact e2)
    have m2 := most_mono h hl (i1 - (j + 1)) (j + 1) _ z1 e4 (by rw [show j + 1 + (i1 - (j + 1)) = i1 by omega]; exact hz1)
    have := ih i1 z1 x hi1 hc1 hz1 hx
    rw [List.length_cons]
    omega
theorem apart_is {ws ps : List (Nat × Nat)} {mo f : List Nat} {x : Nat} (hval : ∀ v ∈ ws, v.1 < v.2) (hf : Front ws 0 f) (hperm : ps.Perm (ws.map sw)) (hlex : Lex ps) (h : Most ps mo) (hl : mo.length = ps.length + 1) (hx : mo[ps.length]? = some x) : x = f.length := by
  obtain ⟨f1, f2, f3⟩ := front_is hval hf
  have hend : ∀ p ∈ ps, p.2 < p.1 := fun p hp => by
    obtain ⟨v, hv, rfl⟩ := List.mem_map.mp (hperm.mem_iff.mp hp)
    exact hval v hv
  have lo := most_ge h hl hperm hlex hval hf 0 0 x (Nat.zero_le _) (fun j q hq => ⟨fun _ => Nat.zero_le _, fun _ => by have := hend q (List.mem_of_getElem? hq); omega⟩) h.1 hx
  obtain ⟨t, ht⟩ : ∃ t, ∀ p ∈ ps, p.1 ≤ t := by
    clear lo hend h hl hx hlex hperm
    induction ps with
    | nil => exact ⟨0, fun p hp => by cases hp⟩
    | cons a l ih =>
      obtain ⟨t, ht⟩ := ih
      exact ⟨max a.1 t, fun p hp => by
        rcases List.mem_cons.mp hp with rfl | hp
        · exact Nat.le_max_left _ _
        · exact Nat.le_trans (ht p hp) (Nat.le_max_right _ _)⟩
  have hi := most_le (f := f) h hl (fun p hp => by
    obtain ⟨v, hv, rfl⟩ := List.mem_map.mp (hperm.mem_iff.mp hp)
    exact f3 v hv (Nat.zero_le _)) hlex ps.length x hx t fun j p _ hp => ht p (List.mem_of_getElem? hp)
  have := List.length_filter_le (fun q => decide (q < t)) f
  omega
end Mine
end
section
open PySem PySem.W PyProof.Rows PySem.Calls
set_option Elab.async false
set_option linter.unusedVariables false
set_option maxRecDepth 100000
namespace Mine
noncomputable def hasN (a : Nat) : List Nat → Bool
  | [] => false
  | b :: l => if Nat.beq b a then true else hasN a l
noncomputable def reachN (fs : List Nat) : Nat → Nat → Nat → Bool
  | 0, _, _ => false
  | k + 1, a, b => fs.any fun e => Nat.beq (e / 8) a && (Nat.beq (e % 8) b || reachN fs k (e % 8) b)
noncomputable def chainN (fs : List Nat) : List Nat → Bool
  | a :: b :: l => if hasN (8 * a + b) fs then chainN fs (b :: l) else false
  | _ => true
noncomputable def checkT (n : Nat) : KasT (Array Nat) → List Nat → Bool
  | .ret p, fs => if chainN fs p.toList then (Nat.beq p.toList.length n && (List.range n).all (fun i => hasN i p.toList)) && p.toList.all (fun i => Nat.blt i n) else false
  | .ask i j k, fs => if Nat.blt i n && Nat.blt j n && !Nat.beq i j then
      (if checkT n (k true) ((8 * i + j) :: fs) then true else reachN fs n j i) && (if checkT n (k false) ((8 * j + i) :: fs) then true else reachN fs n i j) else false
theorem hasN_mem {a : Nat} : ∀ {l : List Nat}, hasN a l = true ↔ a ∈ l
  | [] => by simp [hasN]
  | b :: l => by
    unfold hasN
    cases e : Nat.beq b a with
    | true => rw [Nat.eq_of_beq_eq_true e]; simp
    | false =>
      rw [if_neg Bool.false_ne_true, hasN_mem]
      have : b ≠ a := Nat.ne_of_beq_eq_false e
      simp [Ne.symm this]
section
variable {lt : Nat → Nat → Bool} (tr : ∀ a b c, lt a b = true → lt b c = true → lt a c = true) (irr : ∀ a, lt a a = false)
noncomputable def Facts (lt : Nat → Nat → Bool) (n : Nat) (fs : List Nat) : Prop := ∀ e ∈ fs, lt (e / 8) (e % 8) = true
include tr in
theorem reach_lt {n : Nat} {fs : List Nat} (h : Facts lt n fs) : ∀ k a b, reachN fs k a b = true → lt a b = true
  | 0, _, _, e => by cases e
  | k + 1, a, b, e => by
    unfold reachN at e
    rw [List.any_eq_true] at e
    obtain ⟨x, hx, e⟩ := e
    rw [Bool.and_eq_true, Bool.or_eq_true] at e
    have h1 := h x hx
    rw [Nat.eq_of_beq_eq_true e.1] at h1
    rcases e.2 with e2 | e2
    · rw [Nat.eq_of_beq_eq_true e2] at h1; exact h1
    · exact tr _ _ _ h1 (reach_lt h k _ _ e2)
theorem chain_lt {n : Nat} {fs : List Nat} (h : Facts lt n fs) : ∀ l : List Nat, (∀ a ∈ l, a < 8) → chainN fs l = true → ∀ (i a b : Nat), l[i]? = some a → l[i + 1]? = some b → lt a b = true
  | [], _, _, i, a, b, ha, _ => by simp at ha
  | [x], _, _, i, a, b, ha, hb => by simp at hb
  | x :: y :: l, h8, e, i, a, b, ha, hb => by
    unfold chainN at e
    split at e
    · rename_i hm
      cases i with
      | zero =>
        simp at ha hb; subst ha; subst hb
        have := h _ (hasN_mem.mp hm)
        have hy := h8 y (.tail _ (.head _))
        rw [show (8 * x + y) / 8 = x by omega, show (8 * x + y) % 8 = y by omega] at this
        exact this
      | succ i =>
        simp only [List.getElem?_cons_succ] at ha hb
        exact chain_lt h (y :: l) (fun a ha => h8 a (.tail _ ha)) e i a b ha (by simpa using hb)
    · cases e
include tr irr in
/-- a tree that has been checked sorts -/
theorem check_sound {n : Nat} (hn : n ≤ 8) (tot : ∀ a b, a < n → b < n → a ≠ b → lt a b = false → lt b a = true) {cmp : Nat → Nat → (Bool → Shared → Prop) → Shared → Prop} {s : Shared}
    (hc : ∀ i j C, i < n → j < n → i ≠ j → C (lt i j) s → cmp i j C s) {Q : Array Nat → Shared → Prop}
    (hQ : ∀ p : Array Nat, p.toList.length = n → (∀ i, i < n → i ∈ p.toList) → (∀ i ∈ p.toList, i < n) → (∀ (i a b : Nat), p.toList[i]? = some a → p.toList[i + 1]? = some b → lt a b = true) → Q p s) :
    ∀ (t : KasT (Array Nat)) (fs : List Nat), checkT n t fs = true → Facts lt n fs → t.kasWp cmp Q s := by
  intro t
  induction t with
  | ret p =>
    intro fs e hf
    unfold checkT at e
    split at e
    · rename_i hch
      rw [Bool.and_eq_true, Bool.and_eq_true] at e
      have hlen := Nat.eq_of_beq_eq_true e.1.1
      have hall : ∀ i, i < n → i ∈ p.toList := fun i hi => hasN_mem.mp (List.all_eq_true.mp e.1.2 i (List.mem_range.mpr hi))
      have hsub : ∀ x ∈ p.toList, x < n := fun x hx => Nat.lt_of_lt_of_eq (Nat.le_of_ble_eq_true (List.all_eq_true.mp e.2 x hx)) rfl
      refine hQ p hlen hall hsub fun i a b ha hb => ?_
      exact chain_lt hf p.toList (fun x hx => by have := hsub x hx; omega) hch i a b ha hb
    · cases e
  | ask i j k ih =>
    intro fs e hf
    unfold checkT at e
    split at e
    · rename_i hij
      rw [Bool.and_eq_true, Bool.and_eq_true] at hij
      have h1 : i < n := Nat.lt_of_lt_of_eq (Nat.le_of_ble_eq_true hij.1.1) rfl
      have h2 : j < n := Nat.lt_of_lt_of_eq (Nat.le_of_ble_eq_true hij.1.2) rfl
      have h3 : i ≠ j := by
        intro q
        rw [q] at hij
        have := hij.2
        rw [Nat.beq_refl] at this
        cases this
      rw [Bool.and_eq_true] at e
      refine hc i j _ h1 h2 h3 ?_
      cases hl : lt i j with
      | true =>
        have hf' : Facts lt n ((8 * i + j) :: fs) := fun x hx => by
          rcases List.mem_cons.mp hx with rfl | hx
          · rw [show (8 * i + j) / 8 = i by omega, show (8 * i + j) % 8 = j by omega]; exact hl
          · exact hf x hx
        have e1 := e.1
        split at e1
        · rename_i hk; exact ih true _ hk hf'
        · have := tr _ _ _ hl (reach_lt tr hf _ _ _ e1)
          rw [irr] at this; cases this
      | false =>
        have hl' := tot i j h1 h2 h3 hl
        have hf' : Facts lt n ((8 * j + i) :: fs) := fun x hx => by
          rcases List.mem_cons.mp hx with rfl | hx
          · rw [show (8 * j + i) / 8 = j by omega, show (8 * j + i) % 8 = i by omega]; exact hl'
          · exact hf x hx
        have e1 := e.2
        split at e1
        · rename_i hk; exact ih false _ hk hf'
        · have := tr _ _ _ hl' (reach_lt tr hf _ _ _ e1)
          rw [irr] at this; cases this
    · cases e
end
theorem check2 : checkT 2 (kas_sort 2) [] = true := by decide +kernel
theorem check3 : checkT 3 (kas_sort 3) [] = true := by decide +kernel
theorem check4 : checkT 4 (kas_sort 4) [] = true := by decide +kernel
theorem check5 : checkT 5 (kas_sort 5) [] = true := by decide +kernel
theorem check6 : checkT 6 (kas_sort 6) [] = true := by decide +kernel
theorem checks : ∀ n, 2 ≤ n → n ≤ 6 → checkT n (kas_sort n) [] = true := by
  intro n h1 h2
  obtain h | h | h | h | h : n = 2 ∨ n = 3 ∨ n = 4 ∨ n = 5 ∨ n = 6 := by omega
  all_goals subst h
  · exact check2
  · exact check3
  · exact check4
  · exact check5
  · exact check6
end Mine
end
section
open PySem PySem.W PyProof.Rows PySem.Calls
set_option Elab.async false
set_option linter.unusedVariables false
set_option maxRecDepth 100000
namespace Mine
noncomputable abbrev tupP (p : Nat × Nat) (t1 t2 : Tok) (n : Nat) : Obj := { cls := .type "tuple", data := .seq #[.int (p.1 : Int) t1, .int (p.2 : Int) t2] n }
structure TupAt (h : Heap) (vs : List Value) (ps : List (Nat × Nat)) : Prop where
  len : vs.length = ps.length
  at' : ∀ (j : Nat) (p : Nat × Nat), ps[j]? = some p → ∃ a t1 t2 n, vs[j]? = some (.ref a) ∧ h.get? a = some (tupP p t1 t2 n)
theorem tup_lt {prog : Program} {w : World} {A : PySem.Around} {E : Value → Shared → Prop} {s : Shared} {a b : Addr} {p q : Nat × Nat} {t1 t2 u1 u2 : Tok} {n m : Nat} {C : Bool → Shared → Prop} (ha : s.heap.get? a = some (tupP p t1 t2 n)) (hb : s.heap.get? b = some (tupP q u1 u2 m)) (h : C (lexLt p q) s) :
    wpAny (model prog w) A (keyLt' (tuples' true) (.ref a) (.ref b)) C E s := by
  refine kat_lt ha rfl hb rfl ?_
  show KatLex prog w A true _ C [(.int (p.1 : Int) t1, .int (q.1 : Int) u1), (.int (p.2 : Int) t2, .int (q.2 : Int) u2)] 0 s
  refine kat_cons (wpAny_eqBool_int ?_)
  by_cases h1 : p.1 = q.1
  · rw [show ((p.1 : Int) == (q.1 : Int)) = true by rw [h1]; exact beq_self_eq_true _]
    refine kat_yes (kat_cons (wpAny_eqBool_int ?_))
    by_cases h2 : p.2 = q.2
    · rw [show ((p.2 : Int) == (q.2 : Int)) = true by rw [h2]; exact beq_self_eq_true _]
      refine kat_yes (kat_nil ?_)
      have e : lexLt p q = false := by rw [lexLt_false]; omega
      rw [e] at h; exact h
    · rw [show ((p.2 : Int) == (q.2 : Int)) = false by rw [beq_eq_false_iff_ne]; omega]
      refine kat_no (kat_one _ _ ?_)
      have e : lexLt p q = decide ((p.2 : Int) < (q.2 : Int)) := by
        by_cases h3 : p.2 < q.2
        · rw [decide_eq_true (by omega), lexLt_iff]; omega
        · rw [decide_eq_false (by omega), lexLt_false]; omega
      rw [e] at h
      exact wpAny_lt_int h
  · rw [show ((p.1 : Int) == (q.1 : Int)) = false by rw [beq_eq_false_iff_ne]; omega]
    refine kat_no ?_
    have e : lexLt p q = decide ((p.1 : Int) < (q.1 : Int)) := by
      by_cases h3 : p.1 < q.1
      · rw [decide_eq_true (by omega), lexLt_iff]; omega
      · rw [decide_eq_false (by omega), lexLt_false]; omega
    rw [e] at h
    exact oneLt_int h
theorem pairwise_of_chain {α : Type} {R : α → α → Prop} (tr : ∀ a b c, R a b → R b c → R a c) : ∀ l : List α, (∀ (i : Nat) (a b : α), l[i]? = some a → l[i + 1]? = some b → R a b) → l.Pairwise R
  | [], _ => .nil
  | [x], _ => List.pairwise_singleton _ _
  | x :: y :: l, h => by
    have ih := pairwise_of_chain tr (y :: l) fun i a b ha hb => h (i + 1) a b (by simpa using ha) (by simpa using hb)
    have hxy := h 0 x y rfl rfl
    refine List.pairwise_cons.mpr ⟨fun z hz => ?_, ih⟩
    rcases List.mem_cons.mp hz with rfl | hz
    · exact hxy
    · exact tr _ _ _ hxy ((List.pairwise_cons.mp ih).1 z hz)
theorem lex_trans {a b c : Nat × Nat} (h : lexLt a b = true) (k : lexLt b c = true) : lexLt a c = true := by
  rw [lexLt_iff] at *; omega
theorem lex_irr (a : Nat × Nat) : lexLt a a = false := by rw [lexLt_false]; omega
noncomputable abbrev SLex (ps : List (Nat × Nat)) : Prop := ps.Pairwise fun a b => lexLt a b = true
theorem slex_ext : ∀ {c d : List (Nat × Nat)}, SLex c → SLex d → (∀ q, q ∈ c ↔ q ∈ d) → c = d
  | [], [], _, _, _ => rfl
  | [], b :: d, _, _, h => by have := (h b).mpr (.head _); cases this
  | a :: c, [], _, _, h => by have := (h a).mp (.head _); cases this
  | a :: c, b :: d, hc, hd, h => by
    obtain ⟨c1, c2⟩ := List.pairwise_cons.mp hc
    obtain ⟨d1, d2⟩ := List.pairwise_cons.mp hd
    have hab : a = b := by
      rcases List.mem_cons.mp ((h a).mp (.head _)) with e | e
      · exact e
      · rcases List.mem_cons.mp ((h b).mpr (.head _)) with e2 | e2
        · exact e2.symm
        · have := lex_trans (c1 b e2) (d1 a e)
          rw [lex_irr] at this; cases this
    subst hab
    rw [slex_ext c2 d2 fun q => ⟨fun hq => ?_, fun hq => ?_⟩]
    · rcases List.mem_cons.mp ((h q).mp (.tail _ hq)) with e | e
      · have := c1 q hq; rw [e, lex_irr] at this; cases this
      · exact e
    · rcases List.mem_cons.mp ((h q).mpr (.tail _ hq)) with e | e
      · have := d1 q hq; rw [e, lex_irr] at this; cases this
      · exact e
theorem getD_at {α : Type} {l : List α} {j : Nat} {x d : α} (h : l[j]? = some x) : l.getD j d = x := by
  rw [List.getD_eq_getElem?_getD, h]; rfl
theorem sorted_tups {prog : Program} {w : World} {A : PySem.Around} {E : Value → Shared → Prop} {s : Shared} {h₀ : Heap} {L l : Addr} {m : Str → Option Value} {news : List (Addr × Obj)} {vs : List Value} {ps : List (Nat × Nat)} {Q : Value → Shared → Prop}
    (F : Fr h₀ L s.heap m) (N : News h₀ L s.heap news) (hl : s.heap.IsList l vs.toArray) (h2 : 2 ≤ vs.length) (h6 : vs.length ≤ 6) (htp : ∀ h', News h₀ L h' news → TupAt h' vs ps) (hnd : ∀ (i j : Nat) (p q : Nat × Nat), i ≠ j → ps[i]? = some p → ps[j]? = some q → p ≠ q)
    (k : ∀ D n h' us qs, Fr h₀ L h' m → News h₀ L h' ((D, listOf (List.toArray us) n) :: news) → (∀ p ∈ news, p.1 < D) → TupAt h' us qs → SLex qs → (∀ q, q ∈ qs ↔ q ∈ ps) → (∀ u ∈ us, u ∈ vs) → Q (.ref D) { s with heap := h' }) :
    wpAny (model prog w) A (call (.builtin "sorted") [.ref l]) Q E s := by
  refine kat_sorted F N hl h2 (by omega) fun D e1 h' F' N' hD => ?_
  have hn : vs.length = ps.length := (htp s.heap N).len
  have N'' : News h₀ L h' news := fun p hp => N' p (.tail _ hp)
  have tp := htp h' N''
  have htups : KatTups h' vs (ps.map fun p => Value.int (p.1 : Int) 0) ∨ True := .inr trivial
  have kt : ∃ fs, KatTups h' vs fs ∧ fs.length = vs.length ∧ ∀ v ∈ fs, ∃ z t, v = .int z t := by
    have gen : ∀ (vs : List Value) (ps : List (Nat × Nat)), TupAt h' vs ps → ∃ fs, KatTups h' vs fs ∧ fs.length = vs.length ∧ ∀ v ∈ fs, ∃ z t, v = .int z t := by
      intro vs
      induction vs with
      | nil => exact fun ps _ => ⟨[], trivial, rfl, fun v hv => by cases hv⟩
      | cons v vs ih =>
        intro ps tp
        cases ps with
        | nil => have := tp.len; simp at this
        | cons p ps =>
          obtain ⟨a, t1, t2, n, e1, e2⟩ := tp.at' 0 p rfl
          simp at e1; subst e1
          obtain ⟨fs, f1, f2, f3⟩ := ih ps ⟨by have := tp.len; simpa using this, fun j q hq => by
            obtain ⟨b, u1, u2, m', e3, e4⟩ := tp.at' (j + 1) q (by simpa using hq)
            exact ⟨b, u1, u2, m', by simpa using e3, e4⟩⟩
          refine ⟨.int (p.1 : Int) t1 :: fs, KatTups.cons e2 rfl rfl rfl f1, by simp [f2], fun v hv => ?_⟩
          rcases List.mem_cons.mp hv with rfl | hv
          · exact ⟨_, _, rfl⟩
          · exact f3 v hv
    exact gen vs ps tp
  obtain ⟨fs, kt1, kt2, kt3⟩ := kt
  refine kat_kind kt1 (by omega) (T := .type "int") (fun v hv => ?_) rfl ?_
  · obtain ⟨z, t, rfl⟩ := kt3 v hv
    exact .now
  show (kas_sort vs.length).kasWp (kas_ask prog w A.in1.in1 (tuples' true) vs) _ _
  have getp : ∀ i, i < vs.length → ∃ p, ps[i]? = some p := fun i hi => ⟨_, List.getElem?_eq_getElem (by omega)⟩
  refine check_sound (lt := fun i j => lexLt (ps.getD i (0, 0)) (ps.getD j (0, 0))) (n := vs.length) (fun a b c => lex_trans) (fun a => lex_irr _) (by omega) ?_ ?_ ?_ (kas_sort vs.length) [] (checks _ h2 h6) (fun e he => by cases he)
  · intro a b ha hb hab hlt
    obtain ⟨p, hp⟩ := getp a ha
    obtain ⟨q, hq⟩ := getp b hb
    have hne := hnd a b p q hab hp hq
    rw [getD_at hp, getD_at hq] at *
    rw [lexLt_false] at hlt
    rw [lexLt_iff]
    have : ¬ (p.1 = q.1 ∧ p.2 = q.2) := fun h => hne (Prod.ext h.1 h.2)
    omega
  · intro i j C hi hj hij hC
    obtain ⟨p, hp⟩ := getp i hi
    obtain ⟨q, hq⟩ := getp j hj
    obtain ⟨a, t1, t2, n, e3, e4⟩ := tp.at' i p hp
    obtain ⟨b, u1, u2, n', e5, e6⟩ := tp.at' j q hq
    unfold kas_ask
    rw [getD_at e3, getD_at e5]
    rw [getD_at hp, getD_at hq] at hC
    exact tup_lt e4 e6 hC
  · intro p hpl hpa hpb hch
    refine ⟨_, _, F', N', .head (fun q hq => Nat.ne_of_lt (hD q hq)), fun h'' c F3 N3 => ?_⟩
    refine k D c h'' (p.toList.map fun i => vs.getD i Value.none) (p.toList.map fun i => ps.getD i (0, 0)) F3 N3 hD ⟨by simp, fun j q hq => ?_⟩ ?_ (fun q => ⟨fun hq => ?_, fun hq => ?_⟩) fun u hu => ?_
    · rw [List.getElem?_map] at hq
      cases e : p.toList[j]? with
      | none => rw [e] at hq; cases hq
      | some i =>
        rw [e] at hq
        have hi := hpb i (List.mem_of_getElem? e)
        obtain ⟨p', hp'⟩ := getp i hi
        simp only [Option.map_some] at hq
        rw [getD_at hp'] at hq
        cases hq
        obtain ⟨a, t1, t2, n, e3, e4⟩ := (htp h'' fun p hp => N3 p (.tail _ hp)).at' i _ hp'
        exact ⟨a, t1, t2, n, by rw [List.getElem?_map, e]; simp only [Option.map_some]; rw [getD_at e3], e4⟩
    · refine List.pairwise_map.mpr ?_
      exact pairwise_of_chain (R := fun i j => lexLt (ps.getD i (0, 0)) (ps.getD j (0, 0)) = true) (fun a b c => lex_trans) _ hch
    · obtain ⟨i, hi, rfl⟩ := List.mem_map.mp hq
      obtain ⟨p', hp'⟩ := getp i (hpb i hi)
      rw [getD_at hp']
      exact List.mem_of_getElem? hp'
    · obtain ⟨i, hi⟩ := List.getElem?_of_mem hq
      have hil := (List.getElem?_eq_some_iff.mp hi).1
      exact List.mem_map.mpr ⟨i, hpa i (by omega), getD_at hi⟩
    · obtain ⟨i, hi, rfl⟩ := List.mem_map.mp hu
      obtain ⟨v, hv⟩ : ∃ v, vs[i]? = some v := ⟨_, List.getElem?_eq_getElem (hpb i hi)⟩
      rw [getD_at hv]
      exact List.mem_of_getElem? hv
end Mine
end
section
set_option Elab.async false
set_option linter.unusedVariables false
namespace Mine
theorem count_cut {α : Type} (P : α → Bool) {l : List α} {r : Nat} (hr : r ≤ l.length) (h : ∀ m q, l[m]? = some q → (P q = true ↔ m < r)) : (l.filter P).length = r := by
  have e1 : (l.take r).filter P = l.take r := List.filter_eq_self.mpr fun a ha => by
    obtain ⟨m, hm, e⟩ := mem_take_ix ha
    exact (h m a e).mpr hm
  have e2 : (l.drop r).filter P = [] := List.filter_eq_nil_iff.mpr fun a ha => by
    obtain ⟨m, hm, e⟩ := mem_drop_ix ha
    exact fun q => absurd ((h m a e).mp q) (by omega)
  rw [← List.take_append_drop r l, List.filter_append, e1, e2, List.append_nil, List.length_take]
  omega
theorem SLex.lex {ps : List (Nat × Nat)} (h : SLex ps) : Lex ps := h.imp fun {a b} hab => by
  rw [lexLt_false]; rw [lexLt_iff] at hab; omega
/-- the shelf after i releases, as pairs of number and turn -/
structure Shf (nums : List Nat) (i : Nat) (qs : List (Nat × Nat)) : Prop where
  sl : SLex qs
  perm : qs.Perm (nums.zipIdx.take i)
theorem Shf.mem {nums : List Nat} {i : Nat} {qs : List (Nat × Nat)} (h : Shf nums i qs) {q : Nat × Nat} (hq : q ∈ qs) : q.2 < i ∧ nums[q.2]? = some q.1 := by
  have h1 := h.perm.mem_iff.mp hq
  obtain ⟨m, hm, e⟩ := mem_take_ix h1
  rw [List.getElem?_zipIdx] at e
  cases q' : nums[m]? with
  | none => rw [q'] at e; cases e
  | some x => rw [q'] at e; cases e; simp; exact ⟨hm, q'⟩
theorem Shf.len {nums : List Nat} {i : Nat} {qs : List (Nat × Nat)} (h : Shf nums i qs) (hi : i ≤ nums.length) : qs.length = i := by
  rw [h.perm.length_eq, List.length_take, List.length_zipIdx]; omega
theorem Shf.start (nums : List Nat) : Shf nums 0 [] := ⟨.nil, by simp⟩
theorem Shf.next {nums : List Nat} {i n : Nat} {qs : List (Nat × Nat)} (h : Shf nums i qs) (hn : nums[i]? = some n) :
    ∃ r, r ≤ qs.length ∧ (∀ m q, qs[m]? = some q → decide (n < q.1) = decide (r ≤ m)) ∧ Shf nums (i + 1) (qs.take r ++ (n, i) :: qs.drop r) := by
  obtain ⟨r, hr, hc⟩ := fst_right h.sl.lex n
  refine ⟨r, hr, fun m q e => by rw [decide_eq_decide]; exact hc m q e, pair_ins h.sl (fun a ha => ?_) (fun b hb => ?_), ?_⟩
  · obtain ⟨m, hm, e⟩ := mem_take_ix ha
    have h1 := (not_congr (hc m a e)).mpr (by omega)
    have h2 := (h.mem (List.mem_of_getElem? e)).1
    rw [lexLt_iff]; simp only; omega
  · obtain ⟨m, hm, e⟩ := mem_drop_ix hb
    have h1 := (hc m b e).mpr hm
    rw [lexLt_iff]; exact .inl h1
  · refine (perm_ins qs r (n, i)).trans ?_
    have e : nums.zipIdx.take (i + 1) = nums.zipIdx.take i ++ [(n, i)] := by
      rw [List.take_add_one, List.getElem?_zipIdx, hn]; simp
    rw [e]
    exact (List.Perm.cons _ h.perm).trans (List.perm_append_singleton _ _).symm
theorem Shf.fst {nums : List Nat} {qs : List (Nat × Nat)} (h : Shf nums nums.length qs) : (qs.map (·.1)).Perm nums := by
  have h1 := h.perm.map (·.1)
  rw [List.take_of_length_le (by rw [List.length_zipIdx]; omega), List.zipIdx_map_fst] at h1
  exact h1
theorem Shf.count {nums : List Nat} {qs : List (Nat × Nat)} (h : Shf nums nums.length qs) (P : Nat → Bool) : (qs.filter fun q => P q.1).length = (nums.filter P).length := by
  rw [← (h.fst.filter P).length_eq, List.filter_map, List.length_map]; rfl
theorem Shf.below {nums : List Nat} {qs : List (Nat × Nat)} (h : Shf nums nums.length qs) (c : Nat) : ∃ r, r ≤ qs.length ∧ (∀ m q, qs[m]? = some q → decide (q.1 < c) = decide (m < r)) ∧ (nums.filter fun x => decide (x < c)).length = r := by
  obtain ⟨r, hr, hc⟩ := fst_left h.sl.lex c
  refine ⟨r, hr, fun m q e => by rw [decide_eq_decide]; exact hc m q e, ?_⟩
  rw [← h.count fun x => decide (x < c)]
  exact count_cut _ hr fun m q e => by rw [decide_eq_true_iff]; exact hc m q e
theorem Shf.above {nums : List Nat} {qs : List (Nat × Nat)} (h : Shf nums nums.length qs) (c : Nat) : ∃ r, r ≤ qs.length ∧ (∀ m q, qs[m]? = some q → decide (c < q.1) = decide (r ≤ m)) ∧ (nums.filter fun x => decide (x ≤ c)).length = r := by
  obtain ⟨r, hr, hc⟩ := fst_right h.sl.lex c
  refine ⟨r, hr, fun m q e => by rw [decide_eq_decide]; exact hc m q e, ?_⟩
  rw [← h.count fun x => decide (x ≤ c)]
  exact count_cut _ hr fun m q e => by
    rw [decide_eq_true_iff]
    have := hc m q e
    omega
/-- what sorted tells is the shelf's order -/
theorem Shf.sorted {nums : List Nat} {qs ps : List (Nat × Nat)} (h : Shf nums nums.length qs) (hs : SLex ps) (hm : ∀ q, q ∈ ps ↔ q ∈ nums.zipIdx) : ps = qs := by
  refine slex_ext hs h.sl fun q => (hm q).trans ?_
  rw [h.perm.mem_iff, List.take_of_length_le (by rw [List.length_zipIdx]; omega)]
/-- the fewest places -/
theorem fewest_is {n : Nat} (hn : n ≤ 6) {ws : List (Nat × Nat)} (hval : ∀ v ∈ ws, v.1 < v.2 ∧ v.2 ≤ n) {f l : List Nat} (hf : Front ws 0 f) (hl : Back ws n l) :
    l.length = f.length ∧ f ∈ fits n ws (2 ^ n) ∧ (∀ c ∈ fits n ws (2 ^ n), f.length ≤ c.length) ∧
    ∀ (k x y : Nat), f[k]? = some y → l.reverse[k]? = some x → y < n ∧ x ≤ y ∧ ∀ p, p < n → ((x ≤ p ∧ p ≤ y) ↔ ∃ c ∈ fits n ws (2 ^ n), c.length = f.length ∧ c[k]? = some p) := by
  have hv : ∀ v ∈ ws, v.1 < v.2 := fun v h => (hval v h).1
  obtain ⟨m1, m2, m3⟩ := mix hv (fun v h => (hval v h).2) hf hl
  obtain ⟨f1, f2, f3⟩ := front_is hv hf
  have hfn : ∀ q ∈ f, q < n := fun q hq => by
    obtain ⟨_, v, hv, h⟩ := f2 q hq
    have := (hval v hv).2
    omega
  have hff : f ∈ fits n ws (2 ^ n) := (fits_iff hn hval f).mpr ⟨f1, hfn, fun v hv => f3 v hv (Nat.zero_le _)⟩
  have hst : ∀ v ∈ ws, Stab f v := fun v hv => f3 v hv (Nat.zero_le _)
  have hfw : ∀ q ∈ f, ∃ v ∈ ws, q < v.2 := fun q hq => (f2 q hq).2
  refine ⟨m1, hff, fun c hc => m2 c ((fits_iff hn hval c).mp hc).1 ((fits_iff hn hval c).mp hc).2.2, fun k x y hy hx => ⟨hfn y (List.mem_of_getElem? hy), ((m3 k x y y hy hx).mpr ⟨f, f1, hst, hfw, rfl, hy⟩).1, fun p hp => ?_⟩⟩
  rw [m3 k x y p hy hx]
  constructor
  · rintro ⟨c, a1, a2, a3, a4, a5⟩
    refine ⟨c, (fits_iff hn hval c).mpr ⟨a1, fun q hq => ?_, a2⟩, a4, a5⟩
    obtain ⟨v, hv, h⟩ := a3 q hq
    have := (hval v hv).2
    omega
  · rintro ⟨c, hc, a4, a5⟩
    obtain ⟨a1, a2, a3⟩ := (fits_iff hn hval c).mp hc
    refine ⟨c, a1, a3, fun q hq => ?_, a4, a5⟩
    refine Classical.byContradiction fun hno => ?_
    have hno' : ∀ v ∈ ws, v.2 ≤ q := fun v hv => by
      refine Classical.byContradiction fun h => hno ⟨v, hv, by omega⟩
    have h2 := m2 (c.filter fun z => decide (z ≠ q)) (a1.filter _) fun v hv => by
      obtain ⟨z, hz, b1, b2⟩ := a3 v hv
      refine ⟨z, List.mem_filter.mpr ⟨hz, decide_eq_true ?_⟩, b1, b2⟩
      have := hno' v hv
      omega
    have h3 : (c.filter fun z => decide (z ≠ q)).length < c.length := by
      refine Nat.lt_of_le_of_ne (List.length_filter_le _ _) fun e => ?_
      have h4 := List.length_filter_eq_length_iff.mp e q hq
      simp at h4
    omega
end Mine
end
section
open PySem PySem.W PyProof.Rows PySem.Calls
set_option Elab.async false
set_option linter.unusedVariables false
set_option maxRecDepth 100000
namespace Mine
theorem ints_only : ∀ {vs : List Value} {ns : List Int}, IntsAre vs ns → kf_ints vs = true
  | _, _, .nil => rfl
  | _, _, .cons _ _ h => by unfold kf_ints; exact ints_only h
theorem ints_any (k : Int) : ∀ {vs : List Value} {ns : List Int}, IntsAre vs ns → vs.any (isInt k) = decide (k ∈ ns)
  | _, _, .nil => rfl
  | _, _, .cons _ _ h => by
    rw [List.any_cons, ints_any k h]
    simp only [isInt, List.mem_cons, Bool.decide_or]
    congr 1
    rw [Bool.eq_iff_iff, beq_iff_eq, decide_eq_true_iff]
    exact eq_comm
section
variable {prog : Program} {w : World} {A : PySem.Around} {E : Value → Shared → Prop} {s : Shared}
theorem in_ints {k : Int} {t : Tok} {D : Addr} {vs : List Value} {ns : List Int} {Q : Value → Shared → Prop} (hl : s.heap.IsList D vs.toArray) (hi : IntsAre vs ns) (h : Q (.bool (decide (k ∈ ns))) s) :
    wpAny (model prog w) A (compareOp .In (.int k t) (.ref D)) Q E s :=
  SeqInW.in_listW (isInt k) (fun y hy => kf_eq (ints_only hi) y (by simpa using hy)) hl (by rw [← Array.any_toList, ints_any k hi]; exact h)
end
end Mine
end
section
open PySem PySem.W PyProof.Rows PySem.Calls
set_option Elab.async false
set_option linter.unusedVariables false
set_option maxRecDepth 100000
namespace Mine
/-- the law's own body and scope, read off the program -/
noncomputable def lawFn : List Stmt × Scope :=
  match Challenge.rw_ph0088_02.row.prog.main.body.drop 18 with
  | .FunctionDef _ _ body _ _ _ scope _ _ _ :: _ => (body, scope)
  | _ => ([], { kind := .function, names := [], isGenerator := false, isCoroutine := false, more := [] })
noncomputable def lawB (n : Nat) : List Stmt := lawFn.1.drop n
noncomputable def lawS : Scope := lawFn.2
noncomputable def forB : List Stmt → List Stmt
  | .For _ _ body _ _ :: _ => body
  | _ => []
/-- the body of the windows' loop -/
noncomputable def winB (n : Nat) : List Stmt := (forB (lawB 7)).drop n
/-- the body of the last loop -/
noncomputable def lastB (n : Nat) : List Stmt := (forB (lawB 12)).drop n
noncomputable abbrev lawE (L : Addr) (cd : Value) : Env := envOfC (Str.ofString "law") lawS L 126 cd
end Mine
end
section
open PySem PySem.W PyProof.Rows PySem.Calls
set_option Elab.async false
set_option linter.unusedVariables false
set_option maxRecDepth 100000
namespace Mine
theorem SV.two {vs us : List Value} {ls : List Str} (h : SV vs ls) (k : SV us ls) (i : Nat) (v u : Value) (hv : vs[i]? = some v) (hu : us[i]? = some u) : ∃ x t t', v = .str x t ∧ u = .str x t' := by
  obtain ⟨x, hx, t, rfl⟩ := h.at hv
  obtain ⟨y, hy, t', rfl⟩ := k.at hu
  rw [hx] at hy; cases hy
  exact ⟨x, t, t', rfl, rfl⟩
/-- two lists of the same texts: != is False -/
theorem ne_same {prog : Program} {w : World} {A : PySem.Around} {E : Value → Shared → Prop} {s : Shared} {Q : Value → Shared → Prop} {l b : Addr} {vs us : List Value} {ls : List Str} (hl : s.heap.IsList l vs.toArray) (hb : s.heap.IsList b us.toArray) (hv : SV vs ls) (hu : SV us ls)
    (hun : A.units < cLine) (h : Q (.bool false) s) : wpAny (model prog w) A (compareOp .NotEq (.ref l) (.ref b)) Q E s := by
  show wpAny (model prog w) A (richCompare .NotEq (.ref l) (.ref b)) Q E s
  have e := SeqAt.RcNeAt.lists (e := fun _ => true) hl hb (by rw [List.size_toArray, List.size_toArray, hv.length, hu.length]) hun (fun j h1 h2 => by
    obtain ⟨x, t, t', e1, e2⟩ := hv.two hu j (vs.toArray[j]) (us.toArray[j]) (by rw [← List.getElem?_toArray]; exact Array.getElem?_eq_getElem h1) (by rw [← List.getElem?_toArray]; exact Array.getElem?_eq_getElem h2)
    rw [e1, e2]
    have := SeqAt.EqAt.str_str (A := A.in1) (s := s) x t x t'
    rw [beq_self_eq_true] at this
    exact this)
  refine e prog w E Q ?_
  rw [show ((List.range vs.toArray.size).all fun _ => true) = true by simp]
  exact h
theorem SV.take {vs : List Value} {ls : List Str} (h : SV vs ls) : ∀ k, SV (vs.take k) (ls.take k) := by
  induction h with
  | nil => intro k; simp; exact .nil
  | cons _ ih => intro k; cases k with
    | zero => exact .nil
    | succ k => exact .cons (ih k)
theorem SV.drop {vs : List Value} {ls : List Str} (h : SV vs ls) : ∀ k, SV (vs.drop k) (ls.drop k) := by
  induction h with
  | nil => intro k; simp; exact .nil
  | cons h' ih => intro k; cases k with
    | zero => exact .cons h'
    | succ k => exact ih k
theorem SV.ins {vs : List Value} {ls : List Str} (h : SV vs ls) (k : Nat) (x : Str) (t : Tok) : SV (vs.take k ++ .str x t :: vs.drop k) (ls.take k ++ x :: ls.drop k) := (h.take k).append (.cons (h.drop k))
end Mine
end
section
open PySem PySem.W PyProof.Rows PySem.Calls LCg
set_option Elab.async false
set_option linter.unusedVariables false
set_option maxRecDepth 100000
namespace Mine
theorem cells_cons {cm : Str → Option Value} {n : Str} {c : Addr} {cs : List (Str × Addr)} {cells : List (Addr × Obj)} (h : CellsAre cm ((n, c) :: cs) cells) : ∃ o cells', cells = (c, o) :: cells' ∧ o.data = .cell (cm n) ∧ CellsAre cm cs cells' := by
  cases h with | cons h r => exact ⟨_, _, rfl, h, r⟩
theorem cells_seven {cm : Str → Option Value} {n1 n2 n3 n4 n5 n6 n7 : Str} {a1 a2 a3 a4 a5 a6 a7 : Addr} {cells : List (Addr × Obj)} (h : CellsAre cm [(n1, a1), (n2, a2), (n3, a3), (n4, a4), (n5, a5), (n6, a6), (n7, a7)] cells) :
    ∃ c1 c2 c3 c4 c5 c6 c7, cells = [(a1, c1), (a2, c2), (a3, c3), (a4, c4), (a5, c5), (a6, c6), (a7, c7)] ∧ c1.data = .cell (cm n1) ∧ c2.data = .cell (cm n2) ∧ c3.data = .cell (cm n3) ∧ c4.data = .cell (cm n4) ∧ c5.data = .cell (cm n5) ∧ c6.data = .cell (cm n6) ∧ c7.data = .cell (cm n7) := by
  obtain ⟨c1, cs1, rfl, h1, h⟩ := cells_cons h
  obtain ⟨c2, cs2, rfl, h2, h⟩ := cells_cons h
  obtain ⟨c3, cs3, rfl, h3, h⟩ := cells_cons h
  obtain ⟨c4, cs4, rfl, h4, h⟩ := cells_cons h
  obtain ⟨c5, cs5, rfl, h5, h⟩ := cells_cons h
  obtain ⟨c6, cs6, rfl, h6, h⟩ := cells_cons h
  obtain ⟨c7, rfl, h7⟩ := h.one
  exact ⟨c1, c2, c3, c4, c5, c6, c7, rfl, h1, h2, h3, h4, h5, h6, h7⟩
noncomputable abbrev at7 (L : Addr) : Addr := L + 1 + 1 + 1 + 1 + 1 + 1 + 1
noncomputable abbrev cells7 (L : Addr) (c1 c2 c3 c4 c5 c6 c7 : Obj) : List (Addr × Obj) :=
  [(L + 1 + 1 + 1 + 1 + 1 + 1 + 1, c1), (L + 1 + 1 + 1 + 1 + 1 + 1, c2), (L + 1 + 1 + 1 + 1 + 1, c3), (L + 1 + 1 + 1 + 1, c4), (L + 1 + 1 + 1, c5), (L + 1 + 1, c6), (L + 1, c7)]
theorem below7 {L D : Nat} (h : L + 1 + 1 + 1 + 1 + 1 + 1 + 1 < D) : D ≠ L + 1 ∧ D ≠ L + 1 + 1 ∧ D ≠ L + 1 + 1 + 1 ∧ D ≠ L + 1 + 1 + 1 + 1 ∧ D ≠ L + 1 + 1 + 1 + 1 + 1 ∧ D ≠ L + 1 + 1 + 1 + 1 + 1 + 1 ∧ D ≠ L + 1 + 1 + 1 + 1 + 1 + 1 + 1 := ⟨Nat.ne_of_gt (Nat.lt_of_le_of_lt (Nat.le_add_right (L + 1) 6) h), Nat.ne_of_gt (Nat.lt_of_le_of_lt (Nat.le_add_right (L + 1 + 1) 5) h), Nat.ne_of_gt (Nat.lt_of_le_of_lt (Nat.le_add_right (L + 1 + 1 + 1) 4) h), Nat.ne_of_gt (Nat.lt_of_le_of_lt (Nat.le_add_right (L + 1 + 1 + 1 + 1) 3) h), Nat.ne_of_gt (Nat.lt_of_le_of_lt (Nat.le_add_right (L + 1 + 1 + 1 + 1 + 1) 2) h), Nat.ne_of_gt (Nat.lt_of_le_of_lt (Nat.le_add_right (L + 1 + 1 + 1 + 1 + 1 + 1) 1) h), Nat.ne_of_gt (Nat.lt_of_le_of_lt (Nat.le_add_right (L + 1 + 1 + 1 + 1 + 1 + 1 + 1) 0) h)⟩
theorem own_numbers {L : Nat} {c1 c2 c3 c4 c5 c6 : Obj} : ∀ p ∈ ([(L + 1 + 1 + 1 + 1 + 1 + 1 + 1, c1), (L + 1 + 1 + 1 + 1 + 1 + 1, c2), (L + 1 + 1 + 1 + 1 + 1, c3), (L + 1 + 1 + 1 + 1, c4), (L + 1 + 1 + 1, c5), (L + 1 + 1, c6)] : List (Nat × Obj)), p.1 ≠ L + 1 := by
  intro p hp
  simp only [List.mem_cons, List.not_mem_nil, or_false] at hp
  rcases hp with rfl | rfl | rfl | rfl | rfl | rfl <;> (dsimp only; omega)
theorem own_texts {L : Nat} {c1 c2 c3 c4 c5 : Obj} : ∀ p ∈ ([(L + 1 + 1 + 1 + 1 + 1 + 1 + 1, c1), (L + 1 + 1 + 1 + 1 + 1 + 1, c2), (L + 1 + 1 + 1 + 1 + 1, c3), (L + 1 + 1 + 1 + 1, c4), (L + 1 + 1 + 1, c5)] : List (Nat × Obj)), p.1 ≠ L + 1 + 1 := by
  intro p hp
  simp only [List.mem_cons, List.not_mem_nil, or_false] at hp
  rcases hp with rfl | rfl | rfl | rfl | rfl <;> (dsimp only; omega)
theorem rest_texts {L : Nat} {c7 : Obj} : ∀ p ∈ ([(L + 1, c7)] : List (Nat × Obj)), p.1 ≠ L + 1 + 1 := by
  intro p hp
  rw [List.mem_singleton.mp hp]; dsimp only; omega
theorem cells_below {L D : Nat} {c1 c2 c3 c4 c5 c6 c7 : Obj} (h : L + 1 + 1 + 1 + 1 + 1 + 1 + 1 < D) : ∀ p ∈ cells7 L c1 c2 c3 c4 c5 c6 c7, p.1 ≠ D := by
  intro p hp
  simp only [cells7, List.mem_cons, List.not_mem_nil, or_false] at hp
  have e := below7 h
  rcases hp with rfl | rfl | rfl | rfl | rfl | rfl | rfl
  · exact e.2.2.2.2.2.2.symm
  · exact e.2.2.2.2.2.1.symm
  · exact e.2.2.2.2.1.symm
  · exact e.2.2.2.1.symm
  · exact e.2.2.1.symm
  · exact e.2.1.symm
  · exact e.1.symm
/-- the draws stand -/
noncomputable def Start02 (s : Shared) (L : Addr) (c1 c2 c3 c4 c5 c6 c7 : Obj) (f : Flow) (s' : Shared) : Prop :=
  f = .next ∧ ∃ D ws xs h tk m', s' = { s with heap := h, toks := tk } ∧ Fr s.heap L h m' ∧ News s.heap L h ((D, W.listOf (List.toArray ws) 0) :: cells7 L c1 c2 c3 c4 c5 c6 c7) ∧ @LT.lt Nat _ (at7 L) D ∧ IntsAre ws xs ∧ 2 ≤ xs.length ∧ xs.length ≤ 6 ∧ Pins m' [(Str.ofString "draws", .ref D)]
theorem nat16 (x : Int) : ∃ n : Nat, x.fmod 16 = (n : Int) ∧ n < 16 := by
  refine ⟨(x.fmod 16).toNat, ?_, ?_⟩ <;> (have := Int.fmod_eq_emod_of_nonneg x (b := 16) (by decide); rw [this]; omega)
noncomputable def num (x : Int) : Nat := (x.fmod 16).toNat
noncomputable def sty (x : Int) : Nat := ((x.fdiv 4096).fmod 15).toNat
theorem num_eq (x : Int) : x.fmod 16 = (num x : Int) := by
  have := Int.fmod_eq_emod_of_nonneg x (b := 16) (by decide)
  unfold num; rw [this]; omega
theorem num_lt (x : Int) : num x < 16 := by
  have := Int.fmod_eq_emod_of_nonneg x (b := 16) (by decide)
  unfold num; rw [this]; omega
theorem sty_eq (x : Int) : (x.fdiv 4096).fmod 15 = (sty x : Int) := by
  have := Int.fmod_eq_emod_of_nonneg (x.fdiv 4096) (b := 15) (by decide)
  unfold sty; rw [this]; omega
theorem sty_lt (x : Int) : sty x < 15 := by
  have := Int.fmod_eq_emod_of_nonneg (x.fdiv 4096) (b := 15) (by decide)
  unfold sty; rw [this]; omega
noncomputable def txt (x : Int) : Str := spell (num x) (sty x)
noncomputable def TupsL (tl : List (Addr × Obj)) (vs : List Value) (ps : List (Nat × Nat)) : Prop := vs.length = ps.length ∧ ∀ (j : Nat) (p : Nat × Nat), ps[j]? = some p → ∃ a t1 t2 n, vs[j]? = some (.ref a) ∧ (a, tupP p t1 t2 n) ∈ tl
theorem TupsL.at {h : Heap} {h₀ : Heap} {L : Addr} {tl nx : List (Addr × Obj)} {vs : List Value} {ps : List (Nat × Nat)} (h1 : TupsL tl vs ps) (N : News h₀ L h nx) (hs : ∀ p ∈ tl, p ∈ nx) : TupAt h vs ps :=
  ⟨h1.1, fun j p hp => by
    obtain ⟨a, t1, t2, n, e, m⟩ := h1.2 j p hp
    exact ⟨a, t1, t2, n, e, (N _ (hs _ m)).1⟩⟩
theorem TupsL.snoc {tl : List (Addr × Obj)} {vs : List Value} {ps : List (Nat × Nat)} (h : TupsL tl vs ps) {a : Addr} {p : Nat × Nat} {t1 t2 : Tok} {n : Nat} : TupsL ((a, tupP p t1 t2 n) :: tl) (vs ++ [.ref a]) (ps ++ [p]) := by
  refine ⟨by simp [h.1], fun j q hq => ?_⟩
  by_cases e : j < ps.length
  · rw [List.getElem?_append_left e] at hq
    obtain ⟨b, u1, u2, m, e1, e2⟩ := h.2 j q hq
    exact ⟨b, u1, u2, m, by rw [List.getElem?_append_left (by rw [h.1]; exact e)]; exact e1, .tail _ e2⟩
  · have hl := (List.getElem?_eq_some_iff.mp hq).1
    rw [List.length_append, List.length_singleton] at hl
    have hje : j = ps.length := by omega
    subst hje
    rw [List.getElem?_append_right (Nat.le_refl _), Nat.sub_self] at hq
    cases hq
    exact ⟨a, t1, t2, n, by rw [List.getElem?_append_right (by rw [h.1]; exact Nat.le_refl _), h.1, Nat.sub_self]; rfl, .head _⟩
noncomputable def lbl (xs : List Int) (q : Nat × Nat) : Str := (xs.map txt).getD q.2 (Str.ofString "")
noncomputable def JSh (D aS : Addr) (xs : List Int) (GL : List (Addr × Obj)) (i : Nat) (m' : Str → Option Value) (nx : List (Addr × Obj)) : Prop :=
  ∃ qs sv n, nx = (aS, W.listOf (List.toArray sv) n) :: GL ∧ Shf (xs.map num) i qs ∧ SV sv (qs.map (lbl xs)) ∧ Pins m' [(Str.ofString "shelf", .ref aS), (Str.ofString "draws", .ref D)]
theorem lbl_of {xs : List Int} {i : Nat} {qs : List (Nat × Nat)} (h : Shf (xs.map num) i qs) {q : Nat × Nat} (hq : q ∈ qs) : LabOk (lbl xs q) ∧ keyOf (lbl xs q) = vk q.1 ∧ q.1 < 16 := by
  obtain ⟨_, h1⟩ := h.mem hq
  rw [List.getElem?_map] at h1
  cases e : xs[q.2]? with
  | none => rw [e] at h1; cases h1
  | some x =>
    rw [e] at h1
    have h2 : num x = q.1 := by simpa using h1
    have h3 : lbl xs q = txt x := by unfold lbl; rw [List.getD_eq_getElem?_getD, List.getElem?_map, e]; rfl
    rw [h3, ← h2]
    exact ⟨(spell_ok (num_lt x)).1, (spell_ok (num_lt x)).2, num_lt x⟩
end Mine
end
section
open PySem PySem.W PyProof.Rows PySem.Calls
set_option Elab.async false
set_option linter.unusedVariables false
set_option maxRecDepth 100000
namespace Mine
noncomputable def ListsL (pl : List (Addr × Obj)) (rs : List Value) (ls : List (List Nat)) : Prop := rs.length = ls.length ∧ ∀ (j : Nat) (l : List Nat), ls[j]? = some l → ∃ a vs n, rs[j]? = some (.ref a) ∧ (a, W.listOf (List.toArray vs) n) ∈ pl ∧ IntsAre vs (zs l)
noncomputable def JFt (aW aF c : Addr) (Bd size : Nat) (ws : List (Nat × Nat)) (tz : Tok) (i : Nat) (m' : Str → Option Value) (nx : List (Addr × Obj)) : Prop :=
  ∃ rr n o pl v, nx = (aF, W.listOf (List.toArray rr) n) :: (c, o) :: pl ∧ o.data = .cell v ∧ (∀ p ∈ pl, p.1 ≠ Bd ∧ p.1 ≠ aF ∧ p.1 ≠ c) ∧ ListsL pl rr (fits size ws i) ∧
    Pins m' [(Str.ofString "windows", .ref aW), (Str.ofString "size", .int (size : Int) tz), (Str.ofString "fit", .ref aF)]
theorem pow_int (n : Nat) : (2 : Int) ^ ((n : Nat) : Int).toNat = ((2 ^ n : Nat) : Int) := by
  rw [Int.toNat_natCast]; simp
theorem bits_int (i a b : Nat) (h : a ≤ b) : ((i : Int).fdiv (2 ^ ((a : Nat) : Int).toNat)).fmod (2 ^ (((b : Nat) : Int) - ((a : Nat) : Int)).toNat) = ((i / 2 ^ a % 2 ^ (b - a) : Nat) : Int) := by
  have e : ((b : Int) - (a : Int)) = ((b - a : Nat) : Int) := by omega
  rw [e, pow_int, pow_int, Int.fdiv_eq_ediv_of_nonneg _ (Int.natCast_nonneg _), Int.fmod_eq_emod_of_nonneg _ (Int.natCast_nonneg _)]
  rfl
theorem bit_int (i a : Nat) : ((i : Int).fdiv (2 ^ ((a : Nat) : Int).toNat)).fmod 2 = ((i / 2 ^ a % 2 : Nat) : Int) := by
  rw [pow_int, Int.fdiv_eq_ediv_of_nonneg _ (Int.natCast_nonneg _), Int.fmod_eq_emod_of_nonneg _ (by decide)]
  rfl
theorem off1_mem {D : Addr} : ∀ {l : List (Addr × Obj)}, LCg.Off1 D l → ∀ p ∈ l, p.1 ≠ D
  | [], _, _, h => by cases h
  | _ :: _, x, p, h => by
    rcases List.mem_cons.mp h with rfl | h
    · exact x.1
    · exact off1_mem x.2 p h
theorem fits_succ (size : Nat) (ws : List (Nat × Nat)) (i : Nat) : fits size ws (i + 1) = fits size ws i ++ (if ws.all (meets i) = true then [places i size] else []) := by
  unfold fits
  rw [List.range_succ, List.filter_append, List.map_append]
  cases e : ws.all (meets i) <;> simp [e]
theorem ListsL.snoc {pl : List (Addr × Obj)} {rs : List Value} {ls : List (List Nat)} (h : ListsL pl rs ls) {a : Addr} {vs : List Value} {n : Nat} {l : List Nat} (hv : IntsAre vs (zs l)) : ListsL ((a, W.listOf vs.toArray n) :: pl) (rs ++ [.ref a]) (ls ++ [l]) := by
  refine ⟨by simp [h.1], fun j x hj => ?_⟩
  by_cases e : j < ls.length
  · rw [List.getElem?_append_left e] at hj
    obtain ⟨b, us, m, e1, e2, e3⟩ := h.2 j x hj
    exact ⟨b, us, m, by rw [List.getElem?_append_left (by rw [h.1]; exact e)]; exact e1, .tail _ e2, e3⟩
  · have hl := (List.getElem?_eq_some_iff.mp hj).1
    rw [List.length_append, List.length_singleton] at hl
    have hje : j = ls.length := by omega
    subst hje
    rw [List.getElem?_append_right (Nat.le_refl _), Nat.sub_self] at hj
    cases hj
    exact ⟨a, vs, n, by rw [List.getElem?_append_right (by rw [h.1]; exact Nat.le_refl _), h.1, Nat.sub_self]; rfl, .head _, hv⟩
theorem fits_len (size : Nat) (ws : List (Nat × Nat)) (i : Nat) : (fits size ws i).length ≤ i := by
  unfold fits
  rw [List.length_map]
  exact Nat.le_trans (List.length_filter_le _ _) (by rw [List.length_range]; exact Nat.le_refl _)
set_option maxHeartbeats 80000000 in
theorem fit_any {w : World} {mg mb : Str → Option Value} {A : PySem.Around} {E : Value → Shared → Prop} {s : Shared} {hb : Heap} {L : Addr} {m : Str → Option Value} {news : List (Addr × Obj)} {aW : Addr} {rs : List Value} {ws : List (Nat × Nat)} {size : Nat} {tz : Tok} {Q : Value → Shared → Prop}
    (G : Gd w mg mb hb) (F : Fr hb L s.heap m) (N : News hb L s.heap news) (hroom : A.depth + 7 < recursionLimit) (hu : A.units + 500 < cLine) (hh : A.handled = none)
    (hW : s.heap.IsList aW rs.toArray) (hws : PairsB s.heap rs ws) (hlen : ws.length ≤ 100) (hval : ∀ v ∈ ws, v.1 < v.2 ∧ v.2 ≤ 6) (hsz : size ≤ 6)
    (k : ∀ h' tk' D vs n pl, Fr hb L h' m → News hb L h' ((D, W.listOf (List.toArray vs) n) :: (pl ++ news)) → (∀ q ∈ news, q.1 ≠ D) → (∀ p ∈ pl, ∀ q ∈ news, q.1 ≠ p.1) → ListsL pl vs (fits size ws (2 ^ size)) → Q (.ref D) { s with heap := h', toks := tk' }) :
    wpAny (model Challenge.rw_ph0088_02.row.prog w) A (call (.ref 121) [.int (size : Int) tz, .ref aW]) Q E s := by
  obtain ⟨ah, ad, af, ag, au⟩ := A
  obtain rfl : ah = none := hh
  replace hroom : ad + 7 < recursionLimit := hroom
  replace hu : au + 500 < cLine := hu
  have Gs := G.keeps F.keep
  have X := Gs.X
  have T := Gs.T
  revert X; k_fill; intro X
  refine keep_at (fun v h' => ∃ D vs n pl, v = .ref D ∧ h'.get? D = some (W.listOf (List.toArray vs) n) ∧ s.heap.get? D = none ∧ (∀ p ∈ pl, h'.get? p.1 = some p.2 ∧ s.heap.get? p.1 = none) ∧ ListsL pl vs (fits size ws (2 ^ size))) F N
    (call_AC (K := hd.heap_39 w.params) (binds := [(Str.ofString "size", .int (size : Int) tz), (Str.ofString "windows", .ref aW)]) F.keep G.X G.T.nolimit rfl rfl (by show ad < _; exact units_lt0 hroom) (BindsTo.of_eq rfl) ?kind (by decide) (fun L' h₁ tk cells F' N' hc => ?_)) ?_
  case kind =>
    intro n x hx
    left
    simp only [List.mem_cons, List.not_mem_nil, or_false] at hx
    rcases hx with rfl | rfl <;> rfl
  · clear k F N
    obtain ⟨oc, rfl, hoc⟩ := hc.one
    have hoc : oc.data = .cell none := hoc
    clear hc
    refine stmt_any ?_
    k_steps
    refine nxt_go ?_
    refine stmt_any (for_any ?_)
    k_steps
    rename_i aF h2 lF h3 _ _ h4 tk4 _ _ _ hrg F4 N4 hkp
    clear hkp
    unfold Nxt
    dsimp only at hrg F4 N4 ⊢
    have hrl : rs.length = ws.length := hws.1
    have hlt4 : ∀ p ∈ [(aF, W.listOf #[] 0), (L' + 1, oc)], @LT.lt Nat _ p.1 h4.objs.size := fun p hp => Heap.lt_size (N4 p hp).1
    have hcF : @LT.lt Nat _ (L' + 1) aF := lF
    have h64 : 2 ^ size ≤ 64 := Nat.pow_le_pow_right (n := 2) (by decide) hsz
    generalize hBd : h4.objs.size = Bd at hlt4
    have hFB : @LT.lt Nat _ aF Bd := hlt4 _ (.head _)
    have hCB : @LT.lt Nat _ (L' + 1) Bd := hlt4 _ (.tail _ (.head _))
    refine loopA_range (n := 2 ^ size) (JFt aW aF (L' + 1) Bd size ws tz) hBd rfl hrg (by rw [Int.toNat_natCast]; simp) (by omega) F4 N4 ⟨[], 0, oc, [], none, rfl, hoc, (fun p hp => by cases hp), ⟨rfl, fun j l h => by simp [fits] at h⟩, rfl, rfl, rfl, trivial⟩ ?_ ?_ ?_
    · rintro i ti m₁ nx h tk own hi hown hob ⟨rr, n, o, pl, v0, rfl, ho, hpl, hls, P1⟩ F5 N5
      have F6 := pins F5 _ P1
      have N6 : News s.heap L' h ((aF, W.listOf rr.toArray n) :: (L' + 1, o) :: (pl ++ own)) := fun q hq => N5 q (by
        revert q
        repeat (first | exact List.forall_mem_nil _ | refine List.forall_mem_cons.mpr ⟨by repeat (first | exact List.Mem.head _ | refine List.Mem.tail _ ?_ | refine List.mem_append_right _ ?_), ?_⟩ | refine List.forall_mem_append.mpr ⟨fun z hz => by repeat (first | exact hz | exact List.mem_append_left _ hz | refine List.Mem.tail _ ?_ | refine List.mem_append_right _ ?_), ?_⟩ | exact fun z hz => by repeat (first | exact hz | exact List.mem_append_left _ hz | refine List.Mem.tail _ ?_ | refine List.mem_append_right _ ?_)))
      clear F5 N5 F4 N4
      have hcapart : ∀ p ∈ pl ++ own, p.1 ≠ L' + 1 := by
        intro p hp
        rcases List.mem_append.mp hp with hp | hp
        · exact (hpl p hp).2.2
        · rw [hown p hp]; exact Nat.ne_of_gt hCB
      have hFapart : ∀ p ∈ pl ++ own, p.1 ≠ aF := by
        intro p hp
        rcases List.mem_append.mp hp with hp | hp
        · exact (hpl p hp).2.1
        · rw [hown p hp]; exact Nat.ne_of_gt hFB
      have hne1 : aF ≠ L' + 1 := Nat.ne_of_gt hcF
      k_steps
      refine storeX_C F6 N6 rfl (.tail hne1 (.head hcapart)) ho ?_
      intro h7 o7 F7 N7 ho7
      clear F6 N6 ho
      unfold Nxt
      refine stmt_any (comp_A F7 rfl (by with_unfolding_all rfl) (by with_unfolding_all rfl) (by decide) (by rfl) (by decide) (by rfl) (by rfl) ?_)
      iterate 1 (first | walk1 | (dsimp only; walk1))
      refine CSrc.pair (n := rs.length) (P := fun j v => rs[j]? = some v) (S := fun nx => LCg.SrcAt s.heap aW rs.toArray nx) (J := fun j ys nx => nx = (aF, W.listOf rr.toArray n) :: (L' + 1, o7) :: (pl ++ own) ∧ IntsAre ys (zs (((ws.take j).filter fun p => !meets i p).map (·.2)))) (fun j u e => ∃ (p : Nat × Nat) (t1 t2 : Tok), ws[j]? = some p ∧ u = .int (p.1 : Int) t1 ∧ e = .int (p.2 : Int) t2)
        (Src.list rfl (hW.at fun o e => F7.keep _ _ e)) (by rw [hrl, sizeLine_eq]; omega) rfl F7 N7 ?_ ⟨rfl, .nil⟩ ?_ ?_ ?_
      · rintro j ys nx _; exact .inl hW
      · rintro j v ys nx h9 hj hP ⟨rfl, _⟩ F9 N9
        obtain ⟨p, a, t1, t2, n0, rfl, hp, ha⟩ := hws.at hP
        exact ⟨a, _, _, rfl, .inl ⟨_, F9.keep _ _ ha, rfl, _, rfl⟩, p, t1, t2, hp, rfl, rfl⟩
      · intro g
        refine CTurn.one ?_
        rintro j v ys nx I oI C oC D m₂ h9 tk9 E' hj hP ⟨rfl, hys⟩ ⟨_, _, ⟨p, t1, t2, hp, rfl, rfl⟩, hm1, hm2⟩ hC F9 N9 off ne
        have hpv := hval p (List.mem_of_getElem? hp)
        have hp1 : p.1 < p.2 := hpv.1
        have hp2 : p.2 ≤ 6 := hpv.2
        clear F7 N7
        k_steps
        · rename_i hz
          rw [bits_int i p.1 p.2 (by omega)] at hz
          have hmt : meets i p = false := by unfold meets; simp; omega
          refine ⟨h9, _, _, rfl, F9, N9, off, trivial, rfl, ?_⟩
          rw [List.take_add_one, hp, Option.toList_some, List.filter_append, List.map_append, show [p].filter (fun p => !meets i p) = [p] by simp [hmt]]
          exact ints_snoc hys
        · rename_i hz
          rw [bits_int i p.1 p.2 (by omega)] at hz
          have hmt : meets i p = true := by unfold meets; simp; omega
          refine ⟨h9, _, _, rfl, F9, N9, off, trivial, rfl, ?_⟩
          rw [List.take_add_one, hp, Option.toList_some, List.filter_append, List.map_append, show [p].filter (fun p => !meets i p) = [] by simp [hmt]]
          simpa using hys
      · rintro g ys nx ⟨rfl, hys⟩
        rw [hrl, List.take_length] at hys
        intro aM h10 tk10 F10 N10 o10
        clear F7 N7
        refine nxt_go ?_
        refine stmt_any (if_any ?_)
        k_steps
        · rename_i hno
          have hall : ws.all (meets i) = true := by
            have h1 := of_decide_eq_true hno
            unfold zs at h1
            rw [List.map_eq_nil_iff, List.map_eq_nil_iff, List.filter_eq_nil_iff] at h1
            rw [List.all_eq_true]
            intro p hp
            have := h1 p hp
            simpa using this
          rename Fr _ _ _ _ => F11
          rename News _ _ _ _ => N11
          unfold Nxt
          refine stmt_any ?_
          iterate 6 (first | walk1 | (dsimp only; walk1))
          refine comp_E F11 (by with_unfolding_all rfl) (by decide) (by rfl) (by decide) ?_
          k_steps
          rename_i hrg2 F12 N12 hkp2
          clear hkp2
          dsimp only at hrg2 F12 N12 ⊢
          refine CSrc.name (n := size) (P := fun j v => ∃ t, v = .int (j : Int) t) (S := fun _ => True) (J := fun j ys' nx => nx = _ ∧ IntsAre ys' (zs ((List.range j).filter fun k => decide (i / 2 ^ k % 2 = 1)))) (Src.range rfl hrg2 rfl (by omega)) (by rw [sizeLine_eq]; omega) F12 N12 (fun _ _ _ _ => trivial) ⟨rfl, .nil⟩ ?_ ?_
          · intro g
            refine CTurn.one ?_
            rintro j v ys2 nx I oI C oC D m₂ h9 tk9 E' hj ⟨t9, rfl⟩ ⟨rfl, hys2⟩ hm1 hC F9 N9 off ne
            clear F12 N12
            have hj6 : j ≤ 6 := by omega
            k_steps
            · rename_i hz
              rw [bit_int i j] at hz
              have hmt : decide (i / 2 ^ j % 2 = 1) = true := decide_eq_true (by omega)
              refine ⟨h9, _, _, rfl, F9, N9, off, trivial, rfl, ?_⟩
              rw [List.range_succ, List.filter_append, show [j].filter (fun k => decide (i / 2 ^ k % 2 = 1)) = [j] by simp only [List.filter_cons, List.filter_nil, hmt, if_true]]
              exact ints_snoc hys2
            · rename_i hz
              rw [bit_int i j] at hz
              have hmt : decide (i / 2 ^ j % 2 = 1) = false := decide_eq_false (by omega)
              refine ⟨h9, _, _, rfl, F9, N9, off, trivial, rfl, ?_⟩
              rw [List.range_succ, List.filter_append, show [j].filter (fun k => decide (i / 2 ^ k % 2 = 1)) = [] by simp only [List.filter_cons, List.filter_nil, hmt, Bool.false_eq_true, if_false], List.append_nil]
              exact hys2
          · rintro g ev nx ⟨rfl, hev⟩
            intro aE h13 tk13 F13 N13 o13
            clear F12 N12
            have oe := off1_mem o13
            have N14 : News s.heap L' h13 ((aE, LCg.lst ev) :: (aF, W.listOf rr.toArray n) :: (L' + 1, o7) :: (pl ++ own)) := fun q hq => N13 q (by
              rcases List.mem_cons.mp hq with rfl | hq
              · exact .head _
              · exact .tail _ (.tail _ (.tail _ hq)))
            clear N13
            have hFE : aF ≠ aE := oe _ (.tail _ (.tail _ (.head _)))
            have hCE : L' + 1 ≠ aE := oe (L' + 1, o7) (.tail _ (.tail _ (.tail _ (.head _))))
            have hBE : Bd ≠ aE := by
              obtain ⟨ob, hob⟩ := hob
              exact oe (Bd, ob) (.tail _ (.tail _ (.tail _ (.tail _ (List.mem_append_right _ hob)))))
            iterate 1 (first | walk1 | (dsimp only; walk1))
            refine append_K F13 N14 (.tail (fun e => hFE e.symm) (.head fun q hq => ?_)) ?_ ?_
            · rcases List.mem_cons.mp hq with rfl | hq
              · exact fun e => hne1 e.symm
              · exact hFapart q hq
            · intro h15 F15 N15
              clear F13 N14
              rw [List.push_toArray] at N15
              unfold Nxt
              refine wpAny_execs_nil ?_
              refine wpAny_execs_nil ⟨_, _, _, _, rfl, F15, ?_, rr ++ [.ref aE], n + 1, o7, (aE, LCg.lst ev) :: pl, _, rfl, ho7, ?_, ?_, rfl, rfl, rfl, trivial⟩
              · intro q hq
                refine N15 q ?_
                revert q
                repeat (first | exact List.forall_mem_nil _ | refine List.forall_mem_cons.mpr ⟨by repeat (first | exact List.Mem.head _ | refine List.Mem.tail _ ?_ | refine List.mem_append_right _ ?_), ?_⟩ | refine List.forall_mem_append.mpr ⟨fun z hz => by repeat (first | exact hz | exact List.mem_append_left _ hz | refine List.Mem.tail _ ?_ | refine List.mem_append_right _ ?_), ?_⟩ | exact fun z hz => by repeat (first | exact hz | exact List.mem_append_left _ hz | refine List.Mem.tail _ ?_ | refine List.mem_append_right _ ?_))
              · intro q hq
                rcases List.mem_cons.mp hq with rfl | hq
                · exact ⟨fun e => hBE e.symm, fun e => hFE e.symm, fun e => hCE e.symm⟩
                · exact hpl q hq
              · rw [fits_succ, hall, if_pos rfl]
                exact hls.snoc hev
            · have h1 := fits_len size ws i
              rw [List.size_toArray, hls.1, sizeLine_eq]; omega
        · rename_i hno
          have hall : ws.all (meets i) = false := by
            have h1 := of_decide_eq_false hno
            cases e : ws.all (meets i) with
            | false => rfl
            | true =>
              refine absurd ?_ h1
              rw [List.all_eq_true] at e
              unfold zs
              rw [List.map_eq_nil_iff, List.map_eq_nil_iff, List.filter_eq_nil_iff]
              intro p hp
              simp [e p hp]
          rename Fr _ _ _ _ => F11
          rename News _ _ _ _ => N11
          unfold Nxt
          refine wpAny_execs_nil ?_
          refine wpAny_execs_nil ⟨_, _, _, _, rfl, F11, ?_, rr, n, o7, pl, _, rfl, ho7, hpl, ?_, rfl, rfl, rfl, trivial⟩
          · intro q hq
            refine N11 q ?_
            revert q
            repeat (first | exact List.forall_mem_nil _ | refine List.forall_mem_cons.mpr ⟨by repeat (first | exact List.Mem.head _ | refine List.Mem.tail _ ?_ | refine List.mem_append_right _ ?_), ?_⟩ | refine List.forall_mem_append.mpr ⟨fun z hz => by repeat (first | exact hz | exact List.mem_append_left _ hz | refine List.Mem.tail _ ?_ | refine List.mem_append_right _ ?_), ?_⟩ | exact fun z hz => by repeat (first | exact hz | exact List.mem_append_left _ hz | refine List.Mem.tail _ ?_ | refine List.mem_append_right _ ?_))
          · rw [fits_succ, hall]
            simpa using hls
    · rintro i m' nx ⟨rr, n, o, pl, v0, rfl, _, hpl, _⟩ p hp
      rcases List.mem_cons.mp hp with rfl | hp
      · exact Nat.ne_of_lt hFB
      · rcases List.mem_cons.mp hp with rfl | hp
        · exact Nat.ne_of_lt hCB
        · exact (hpl p hp).1
    · rintro m₁ nx h tk ⟨rr, n, o, pl, v0, rfl, ho, hpl, hls, P1⟩ F5 N5
      have F6 := pins F5 _ P1
      clear F5 F4 N4
      dsimp only
      refine stmt_any ?_
      k_steps
      exact ⟨_, _, _, rfl, rfl, F6.keep, aF, rr, n, pl, rfl, (N5 _ (.head _)).1, (N5 _ (.head _)).2.2, (fun p hp => ⟨(N5 p (.tail _ (.tail _ hp))).1, (N5 p (.tail _ (.tail _ hp))).2.2⟩), hls⟩
  · rintro v h' tk' K2 F2 N2 ⟨D, vs, n, pl, rfl, e1, e2, e3, e4⟩
    have nw := new_apart F N e2
    refine k h' tk' D vs n pl F2 (fun p hp => ?_) nw.2.2 (fun p hp => (new_apart F N (e3 p hp).2).2.2) e4
    rcases List.mem_cons.mp hp with rfl | hp
    · exact ⟨e1, nw.1, nw.2.1⟩
    · rcases List.mem_append.mp hp with hp | hp
      · have nw2 := new_apart F N (e3 p hp).2
        exact ⟨(e3 p hp).1, nw2.1, nw2.2.1⟩
      · exact N2 p hp
end Mine
end
section
open PySem PySem.W PyProof.Rows PySem.Calls LCg
set_option Elab.async false
set_option linter.unusedVariables false
set_option maxRecDepth 100000
namespace Mine
set_option maxHeartbeats 8000000 in
theorem win_two {w : World} {mg mb : Str → Option Value} {s : Shared} {Q : Flow → Shared → Prop} {hb : Heap} {L aW aS aN D : Addr} {rr sv nv : List Value} {n nS : Nat} {tl : List (Addr × Obj)} {oh ol d7 : Obj} {m : Str → Option Value} {cd : Value} {nums : List Nat} {lo hi r1 r2 : Nat} {t1 t2 t3 t4 : Tok}
    (G : Gd w mg mb hb) (F : Fr hb L s.heap m)
    (N : News hb L s.heap ((aW, W.listOf rr.toArray n) :: (aS, W.listOf sv.toArray nS) :: (aN, LCg.lst nv) :: (L + 1 + 1 + 1 + 1 + 1, oh) :: (L + 1 + 1 + 1 + 1, ol) :: (L + 1, d7) :: tl))
    (P : Pins m [(Str.ofString "begin", .int (r1 : Int) t3), (Str.ofString "end", .int (r2 : Int) t4), (Str.ofString "windows", .ref aW), (Str.ofString "shelf", .ref aS), (Str.ofString "draws", .ref D)])
    (hol : ol.data = .cell (some (.int (lo : Int) t1))) (hoh : oh.data = .cell (some (.int (hi : Int) t2))) (h7 : d7.data = .cell (some (.ref aN)))
    (hnv : IntsAre nv (zs nums)) (hnl : nums.length ≤ 6) (hr : rr.length ≤ 6) (h1 : (nums.filter fun x => decide (x < lo)).length = r1) (h2 : (nums.filter fun x => decide (x ≤ hi)).length = r2)
    (hw : ∀ p ∈ (aS, W.listOf sv.toArray nS) :: (aN, LCg.lst nv) :: (L + 1 + 1 + 1 + 1 + 1, oh) :: (L + 1 + 1 + 1 + 1, ol) :: (L + 1, d7) :: tl, p.1 ≠ aW)
    (k0 : r2 ≤ r1 → ∀ h' tk' m', Fr hb L h' m' → News hb L h' ((aW, W.listOf rr.toArray n) :: (aS, W.listOf sv.toArray nS) :: (aN, LCg.lst nv) :: (L + 1 + 1 + 1 + 1 + 1, oh) :: (L + 1 + 1 + 1 + 1, ol) :: (L + 1, d7) :: tl) →
      Pins m' [(Str.ofString "windows", .ref aW), (Str.ofString "shelf", .ref aS), (Str.ofString "draws", .ref D)] → Q .next { s with heap := h', toks := tk' })
    (k1 : r1 < r2 → ∀ h' tk' m' aP, Fr hb L h' m' → News hb L h' ((aW, W.listOf (List.toArray (rr ++ [.ref aP])) (n + 1)) :: (aP, pairO (r1, r2) t3 t4 0) :: (aS, W.listOf sv.toArray nS) :: (aN, LCg.lst nv) :: (L + 1 + 1 + 1 + 1 + 1, oh) :: (L + 1 + 1 + 1 + 1, ol) :: (L + 1, d7) :: tl) →
      @LT.lt Nat _ aW aP → AllLt aP tl →
      Pins m' [(Str.ofString "windows", .ref aW), (Str.ofString "shelf", .ref aS), (Str.ofString "draws", .ref D)] → Q .next { s with heap := h', toks := tk' }) :
    wpC (model Challenge.rw_ph0088_02.row.prog w) (callerA.deeper (lawE L cd)) (execs (winB 5) (lawE L cd)) Q NoE s := by
  have X := G.X
  have T := G.T
  revert X; k_fill; intro X
  have F1 := pins F _ P
  clear F
  change wpC _ (PySem.Around.deeper _ (envOfC _ ⟨_, _, _, _, _⟩ _ _ _)) (execs (_ :: _) (envOfC _ ⟨_, _, _, _, _⟩ _ _ _)) _ _ _
  dsimp only at F1 ⊢
  refine wpC_execs_any ?_
  have hnl2 : nv.length = nums.length := by rw [hnv.length, List.length_map]
  have hr1 : r1 ≤ 6 := by rw [← h1]; exact Nat.le_trans (List.length_filter_le _ _) hnl
  have hr2 : r2 ≤ 6 := by rw [← h2]; exact Nat.le_trans (List.length_filter_le _ _) hnl
  iterate 7 (first | walk1 | (dsimp only; walk1))
  refine comp_E F1 (by with_unfolding_all rfl) (by decide) (by rfl) (by decide) ?_
  iterate 1 (first | walk1 | (dsimp only; walk1))
  refine CSrc.name (n := nv.length) (P := fun j v => nv[j]? = some v) (S := fun nx => LCg.SrcAt hb aN nv.toArray nx) (J := fun j ys nx => nx = (aW, W.listOf rr.toArray n) :: (aS, W.listOf sv.toArray nS) :: (aN, LCg.lst nv) :: (L + 1 + 1 + 1 + 1 + 1, oh) :: (L + 1 + 1 + 1 + 1, ol) :: (L + 1, d7) :: tl ∧ IntsAre ys (zs ((nums.take j).filter fun x => decide (x < lo)))) (Src.list rfl ⟨_, (N _ (.tail _ (.tail _ (.head _)))).1, rfl, _, rfl⟩) (by rw [sizeLine_eq]; omega) F1 N ?_ ⟨rfl, .nil⟩ ?_ ?_
  · rintro j ys nx ⟨rfl, _⟩; exact .inr ⟨_, .tail _ (.tail _ (.head _)), rfl, _, rfl⟩
  · intro g
    refine CTurn.one ?_
    rintro j v ys nx I oI C oC D' m₂ h9 tk9 E' hj hP ⟨rfl, hys⟩ hm1 hC F9 N9 off ne
    obtain ⟨x0, tx, rfl, hx0⟩ := hnv.at j v hP
    obtain ⟨y, hy, rfl⟩ := map_at hx0
    clear F1 N
    have nxt : ∀ b, decide (y < lo) = b → (nums.take (j + 1)).filter (fun x => decide (x < lo)) = (nums.take j).filter (fun x => decide (x < lo)) ++ (if b = true then [y] else []) := by
      intro b hb
      rw [List.take_add_one, hy, Option.toList_some, List.filter_append, List.filter_cons, List.filter_nil, hb]
    k_steps
    · rename_i hz
      refine ⟨h9, _, _, rfl, F9, N9, off, trivial, rfl, ?_⟩
      rw [nxt true (decide_eq_true (by omega)), if_pos rfl]
      exact ints_snoc hys
    · rename_i hz
      refine ⟨h9, _, _, rfl, F9, N9, off, trivial, rfl, ?_⟩
      rw [nxt false (decide_eq_false (by omega)), if_neg Bool.false_ne_true, List.append_nil]
      exact hys
  rintro g3 ys3 nx3 ⟨rfl, hys3⟩
  rw [hnl2, List.take_length] at hys3
  intro aE3 h13 tk13 F13 N13 o13
  clear F1 N o13
  have hyl3 : ys3.length = r1 := by rw [hys3.length, List.length_map]; assumption
  have hE3 : h13.IsList aE3 ys3.toArray := ⟨_, (N13 _ (.head _)).1, rfl, _, rfl⟩
  iterate 1 (first | walk1 | (dsimp only; walk1))
  refine kun_lenL (k := (r1 : Int)) (items := ys3.toArray) hE3 (by rw [List.size_toArray, hyl3]) (by omega) ?_
  clear hyl3 hys3 hE3
  k_steps
  · rename_i hcc; exact absurd rfl hcc
  rename Fr _ _ _ _ => F1
  rename News _ _ _ _ => N1
  have N : News hb L h13 ((aW, W.listOf rr.toArray n) :: (aS, W.listOf sv.toArray nS) :: (aN, LCg.lst nv) :: (L + 1 + 1 + 1 + 1 + 1, oh) :: (L + 1 + 1 + 1 + 1, ol) :: (L + 1, d7) :: tl) := fun p hp => N1 p (.tail _ hp)
  clear N1
  dsimp only at F1 ⊢
  refine wpC_execs_any ?_
  iterate 7 (first | walk1 | (dsimp only; walk1))
  refine comp_E F1 (by with_unfolding_all rfl) (by decide) (by rfl) (by decide) ?_
  iterate 1 (first | walk1 | (dsimp only; walk1))
  refine CSrc.name (n := nv.length) (P := fun j v => nv[j]? = some v) (S := fun nx => LCg.SrcAt hb aN nv.toArray nx) (J := fun j ys nx => nx = (aW, W.listOf rr.toArray n) :: (aS, W.listOf sv.toArray nS) :: (aN, LCg.lst nv) :: (L + 1 + 1 + 1 + 1 + 1, oh) :: (L + 1 + 1 + 1 + 1, ol) :: (L + 1, d7) :: tl ∧ IntsAre ys (zs ((nums.take j).filter fun x => decide (x ≤ hi)))) (Src.list rfl ⟨_, (N _ (.tail _ (.tail _ (.head _)))).1, rfl, _, rfl⟩) (by rw [sizeLine_eq]; omega) F1 N ?_ ⟨rfl, .nil⟩ ?_ ?_
  · rintro j ys nx ⟨rfl, _⟩; exact .inr ⟨_, .tail _ (.tail _ (.head _)), rfl, _, rfl⟩
  · intro g
    refine CTurn.one ?_
    rintro j v ys nx I oI C oC D' m₂ h9 tk9 E' hj hP ⟨rfl, hys⟩ hm1 hC F9 N9 off ne
    obtain ⟨x0, tx, rfl, hx0⟩ := hnv.at j v hP
    obtain ⟨y, hy, rfl⟩ := map_at hx0
    clear F1 N
    have nxt : ∀ b, decide (y ≤ hi) = b → (nums.take (j + 1)).filter (fun x => decide (x ≤ hi)) = (nums.take j).filter (fun x => decide (x ≤ hi)) ++ (if b = true then [y] else []) := by
      intro b hb
      rw [List.take_add_one, hy, Option.toList_some, List.filter_append, List.filter_cons, List.filter_nil, hb]
    k_steps
    · rename_i hz
      refine ⟨h9, _, _, rfl, F9, N9, off, trivial, rfl, ?_⟩
      rw [nxt true (decide_eq_true (by omega)), if_pos rfl]
      exact ints_snoc hys
    · rename_i hz
      refine ⟨h9, _, _, rfl, F9, N9, off, trivial, rfl, ?_⟩
      rw [nxt false (decide_eq_false (by omega)), if_neg Bool.false_ne_true, List.append_nil]
      exact hys
  rintro g4 ys4 nx4 ⟨rfl, hys4⟩
  rw [hnl2, List.take_length] at hys4
  intro aE4 h14 tk14 F14 N14 o14
  clear F1 N o14
  have hyl4 : ys4.length = r2 := by rw [hys4.length, List.length_map]; assumption
  have hE4 : h14.IsList aE4 ys4.toArray := ⟨_, (N14 _ (.head _)).1, rfl, _, rfl⟩
  iterate 1 (first | walk1 | (dsimp only; walk1))
  refine kun_lenL (k := (r2 : Int)) (items := ys4.toArray) hE4 (by rw [List.size_toArray, hyl4]) (by omega) ?_
  clear hyl4 hys4 hE4
  k_steps
  · rename_i hcc; exact absurd rfl hcc
  rename Fr _ _ _ _ => F1
  rename News _ _ _ _ => N1
  have N : News hb L h14 ((aW, W.listOf rr.toArray n) :: (aS, W.listOf sv.toArray nS) :: (aN, LCg.lst nv) :: (L + 1 + 1 + 1 + 1 + 1, oh) :: (L + 1 + 1 + 1 + 1, ol) :: (L + 1, d7) :: tl) := fun p hp => N1 p (.tail _ hp)
  clear N1
  dsimp only at F1 ⊢
  refine wpC_execs_any ?_
  k_steps
  · rename_i hlt aP hP FP NP lP
    have hne : ∀ p ∈ (aP, W.listOf #[.int (r1 : Int) t3, .int (r2 : Int) t4] 0) :: (aS, W.listOf sv.toArray nS) :: (aN, LCg.lst nv) :: (L + 1 + 1 + 1 + 1 + 1, oh) :: (L + 1 + 1 + 1 + 1, ol) :: (L + 1, d7) :: tl, p.1 ≠ aW := by
      intro p hp
      rcases List.mem_cons.mp hp with rfl | hp
      · exact Nat.ne_of_gt lP.1
      · exact hw p hp
    refine append_K FP (nw_cons NP (.tail _ (.head _)) (nw_cons NP (.head _) fun q hq => NP q (.tail _ (.tail _ hq)))) (.head hne) ?_ ?_
    · intro h5 F5 N5
      rw [List.push_toArray] at N5
      refine wpAny_execs_nil ?_
      dsimp only
      exact wpC_execs_nil (k1 (by omega) h5 _ _ aP F5 N5 lP.1 lP.2.2.2.2.2.2 ⟨rfl, rfl, rfl, trivial⟩)
    · rw [List.size_toArray, sizeLine_eq]; omega
  · rename_i hlt
    dsimp only
    exact wpC_execs_nil (k0 (by omega) h14 _ _ F1 N ⟨rfl, rfl, rfl, trivial⟩)
end Mine
end
section
open PySem PySem.W PyProof.Rows PySem.Calls LCg
set_option Elab.async false
set_option linter.unusedVariables false
set_option maxRecDepth 100000
namespace Mine
/-- an ask's two ends, the lesser ahead -/
theorem ends_of {x : Int} {n : List Int} (e : n.length = 0 + 1 + 1) (p : n.Perm [(x.fdiv 16).fmod 16, (x.fdiv 256).fmod 16]) : ∃ lo hi : Nat, n = [(lo : Int), (hi : Int)] ∧ lo < 16 ∧ hi < 16 := by
  have hb : ∀ y ∈ n, ∃ k : Nat, y = (k : Int) ∧ k < 16 := by
    intro y hy
    have := p.mem_iff.mp hy
    simp only [List.mem_cons, List.not_mem_nil, or_false] at this
    rcases this with rfl | rfl
    · exact nat16 _
    · exact nat16 _
  match n, e with
  | [a, b], _ =>
    obtain ⟨k, rfl, hk⟩ := hb a (.head _)
    obtain ⟨j, rfl, hj⟩ := hb b (.tail _ (.head _))
    exact ⟨k, j, rfl, hk, hj⟩
theorem two_ints {v : List Value} {a b : Int} (h : IntsAre v [a, b]) : ∃ t1 t2, v = [.int a t1, .int b t2] := by
  cases h with | cons _ t1 h => cases h with | cons _ t2 h => cases h; exact ⟨t1, t2, rfl⟩
theorem three_ne {L : Nat} (e : L + 1 = L + 1 + 1 + 1 + 1) : False := by omega
theorem four_ne {L : Nat} (e : L + 1 = L + 1 + 1 + 1 + 1 + 1) : False := by omega
set_option maxHeartbeats 8000000 in
theorem win_one {w : World} {mg mb : Str → Option Value} {s : Shared} {Q : Flow → Shared → Prop} {hb : Heap} {L aW aS aN D : Addr} {rr sv nv : List Value} {n nS : Nat} {tl : List (Addr × Obj)} {x : Int} {tx : Tok} {oh ol d7 : Obj} {vh vl : Option Value} {m : Str → Option Value} {cd : Value} {nums : List Nat} {qs : List (Nat × Nat)} {lb : Nat × Nat → Str}
    (G : Gd w mg mb hb) (F : Fr hb L s.heap m)
    (N : News hb L s.heap ((aW, W.listOf rr.toArray n) :: (aS, W.listOf sv.toArray nS) :: (aN, LCg.lst nv) :: (L + 1 + 1 + 1 + 1 + 1, oh) :: (L + 1 + 1 + 1 + 1, ol) :: (L + 1, d7) :: tl))
    (P : Pins m [(Str.ofString "x", .int x tx), (Str.ofString "windows", .ref aW), (Str.ofString "shelf", .ref aS), (Str.ofString "draws", .ref D)])
    (hol : ol.data = .cell vl) (hoh : oh.data = .cell vh) (h7 : d7.data = .cell (some (.ref aN)))
    (h1 : ∀ p ∈ (aW, W.listOf rr.toArray n) :: (aS, W.listOf sv.toArray nS) :: (aN, LCg.lst nv) :: tl, p.1 ≠ L + 1 + 1 + 1 + 1 + 1 ∧ p.1 ≠ L + 1 + 1 + 1 + 1)
    (hnv : IntsAre nv (zs nums)) (hsh : Shf nums nums.length qs) (hsv : SV sv (qs.map lb)) (hlb : ∀ q ∈ qs, LabOk (lb q) ∧ keyOf (lb q) = vk q.1 ∧ q.1 < 16) (hnl : nums.length ≤ 6) (hr : rr.length ≤ 6)
    (hw : ∀ p ∈ (aS, W.listOf sv.toArray nS) :: (aN, LCg.lst nv) :: (L + 1, d7) :: tl, p.1 ≠ aW)
    (k0 : ∀ h' tk' m' oh' ol' vh' vl', oh'.data = .cell vh' → ol'.data = .cell vl' → Fr hb L h' m' → News hb L h' ((aW, W.listOf rr.toArray n) :: (aS, W.listOf sv.toArray nS) :: (aN, LCg.lst nv) :: (L + 1 + 1 + 1 + 1 + 1, oh') :: (L + 1 + 1 + 1 + 1, ol') :: (L + 1, d7) :: tl) →
      Pins m' [(Str.ofString "windows", .ref aW), (Str.ofString "shelf", .ref aS), (Str.ofString "draws", .ref D)] → Q .next { s with heap := h', toks := tk' })
    (k1 : ∀ h' tk' m' oh' ol' vh' vl' aP (r1 r2 : Nat) (t3 t4 : Tok), r1 < r2 → r2 ≤ nums.length → oh'.data = .cell vh' → ol'.data = .cell vl' → Fr hb L h' m' →
      News hb L h' ((aW, W.listOf (List.toArray (rr ++ [.ref aP])) (n + 1)) :: (aP, pairO (r1, r2) t3 t4 0) :: (aS, W.listOf sv.toArray nS) :: (aN, LCg.lst nv) :: (L + 1 + 1 + 1 + 1 + 1, oh') :: (L + 1 + 1 + 1 + 1, ol') :: (L + 1, d7) :: tl) →
      @LT.lt Nat _ aW aP → AllLt aP tl →
      Pins m' [(Str.ofString "windows", .ref aW), (Str.ofString "shelf", .ref aS), (Str.ofString "draws", .ref D)] → Q .next { s with heap := h', toks := tk' }) :
    wpC (model Challenge.rw_ph0088_02.row.prog w) (callerA.deeper (lawE L cd)) (execs (winB 0) (lawE L cd)) Q NoE s := by
  have X := G.X
  have T := G.T
  revert X; k_fill; intro X
  have F1 := pins F _ P
  clear F
  change wpC _ (PySem.Around.deeper _ (envOfC _ ⟨_, _, _, _, _⟩ _ _ _)) (execs (_ :: _) (envOfC _ ⟨_, _, _, _, _⟩ _ _ _)) _ _ _
  dsimp only at F1 ⊢
  refine wpC_execs_any ?_
  k_steps
  rename_i l2a h2a l2b D2 v2 n2 c2 h2 F2 N2 hI2 e2 p2 o2 q2 l2 u2 y2 z2
  clear o2 q2 u2 y2 z2
  obtain ⟨lo, hi, rfl, hlo, hhi⟩ := ends_of e2 p2
  obtain ⟨t1, t2, rfl⟩ := two_ints hI2
  clear hI2 e2 p2 l2b l2
  dsimp only
  refine kun_list F2 N2 ⟨_, (N2 _ (.head _)).1, rfl, _, rfl⟩ rfl rfl rfl ?_
  intro h3 F3 N3
  clear F2 N2
  have N4 : News hb L h3 ((aW, W.listOf rr.toArray n) :: (aS, W.listOf sv.toArray nS) :: (aN, LCg.lst nv) :: (L + 1 + 1 + 1 + 1 + 1, oh) :: (L + 1 + 1 + 1 + 1, ol) :: (L + 1, d7) :: tl) := fun p hp => N3 p (.tail _ (.tail _ hp))
  clear N3
  refine assignInOrder_cons (wpAny_assign_Name (stCN (own := (aW, W.listOf rr.toArray n) :: (aS, W.listOf sv.toArray nS) :: (aN, LCg.lst nv) :: [(L + 1 + 1 + 1 + 1 + 1, oh)]) (rest := (L + 1, d7) :: tl) F3 N4 (by rfl) hol ?_ ?_ ?_))
  · intro p hp
    rcases List.mem_cons.mp hp with rfl | hp
    · exact (h1 _ (.head _)).2
    rcases List.mem_cons.mp hp with rfl | hp
    · exact (h1 _ (.tail _ (.head _))).2
    rcases List.mem_cons.mp hp with rfl | hp
    · exact (h1 _ (.tail _ (.tail _ (.head _)))).2
    · rw [List.mem_singleton.mp hp]; exact Nat.succ_ne_self _
  · intro p hp
    rcases List.mem_cons.mp hp with rfl | hp
    · exact fun e => three_ne e
    · exact (h1 _ (.tail _ (.tail _ (.tail _ hp)))).2
  intro h5 ol' F5 N5 hol'
  clear N4 F3
  refine assignInOrder_cons (wpAny_assign_Name (stCN (own := (aW, W.listOf rr.toArray n) :: (aS, W.listOf sv.toArray nS) :: [(aN, LCg.lst nv)]) (rest := (L + 1 + 1 + 1 + 1, ol') :: (L + 1, d7) :: tl) F5 N5 (by rfl) hoh ?_ ?_ ?_))
  · intro p hp
    rcases List.mem_cons.mp hp with rfl | hp
    · exact (h1 _ (.head _)).1
    rcases List.mem_cons.mp hp with rfl | hp
    · exact (h1 _ (.tail _ (.head _))).1
    · rw [List.mem_singleton.mp hp]; exact (h1 _ (.tail _ (.tail _ (.head _)))).1
  · intro p hp
    rcases List.mem_cons.mp hp with rfl | hp
    · exact (Nat.succ_ne_self _).symm
    rcases List.mem_cons.mp hp with rfl | hp
    · exact fun e => four_ne e
    · exact (h1 _ (.tail _ (.tail _ (.tail _ hp)))).1
  intro h6 oh' F6 N6 hoh'
  clear N5 F5
  refine assignInOrder_nil ?_
  change News hb L h6 ((aW, W.listOf rr.toArray n) :: (aS, W.listOf sv.toArray nS) :: (aN, LCg.lst nv) :: (L + 1 + 1 + 1 + 1 + 1, oh') :: (L + 1 + 1 + 1 + 1, ol') :: (L + 1, d7) :: tl) at N6
  dsimp only at F6 ⊢
  refine wpC_execs_cons (wpC_Assign_Name (wpC_Call_Name ?_))
  k_steps
  refine wpC_call_K0 (K := hd.heap_39 w.params) rfl (wpC_of_any ?_)
  k_steps
  rename Fr _ _ _ _ => F7
  rename News _ _ _ _ => N7
  rw [sty_eq x]
  rw [show ((sty x : Int) + 1) = ((sty x + 1 : Nat) : Int) from rfl]
  refine spelled_any G F7 N7 (by show callerA.depth + 1 + 5 < recursionLimit; decide +kernel) rfl hlo (by have := sty_lt x; omega) ?_
  intro h8 tk8 t8 F8 N8
  clear F7 N7
  k_steps
  refine cv_law2 G F8 N8 (spell_ok hlo).1 ?_
  intro h9 tk9 aL lv nL F9 N9 hneL hav
  replace hav : AV lv (vk lo) := (spell_ok (st := sty x + 1) hlo).2 ▸ hav
  clear F8 N8
  k_steps
  rename Fr _ _ _ _ => F10
  rename News _ _ _ _ => N10
  dsimp only at F10 N10 ⊢
  refine wpC_execs_cons (wpC_Assign_Name (wpC_Call_Name ?_))
  k_steps
  refine wpC_call_K0 (K := hd.heap_39 w.params) rfl (wpC_of_any ?_)
  k_steps
  rename Fr _ _ _ _ => F11
  rename News _ _ _ _ => N11
  rw [sty_eq x]
  rw [show ((sty x : Int) + 2) = ((sty x + 2 : Nat) : Int) from rfl]
  refine spelled_any G F11 N11 (by show callerA.depth + 1 + 5 < recursionLimit; decide +kernel) rfl hhi (by have := sty_lt x; omega) ?_
  intro h12 tk12 t12 F12 N12
  clear F11 N11
  k_steps
  refine cv_law2 G F12 N12 (spell_ok hhi).1 ?_
  intro h13 tk13 aG gv nG F13 N13 hneG hag
  replace hag : AV gv (vk hi) := (spell_ok (st := sty x + 2) hhi).2 ▸ hag
  clear F12 N12
  k_steps
  rename Fr _ _ _ _ => F14
  rename News _ _ _ _ => N14
  dsimp only at F14 N14 ⊢
  obtain ⟨r1, hr1, hc1, hb1⟩ := hsh.below lo
  obtain ⟨r2, hr2, hc2, hb2⟩ := hsh.above hi
  have hql : qs.length = nums.length := hsh.len (Nat.le_refl _)
  have hok : ∀ l ∈ qs.map lb, LabOk l := fun l hl => by
    obtain ⟨q, hq, rfl⟩ := List.mem_map.mp hl
    exact (hlb q hq).1
  have hat : ∀ (j : Nat) l, (qs.map lb)[j]? = some l → ∃ q, qs[j]? = some q ∧ keyOf l = vk q.1 ∧ q.1 < 16 := fun j l hj => by
    obtain ⟨q, hq, rfl⟩ := map_at hj
    exact ⟨q, hq, (hlb q (List.mem_of_getElem? hq)).2⟩
  refine wpC_execs_cons (wpC_Assign_Name (wpC_Call_Name ?_))
  k_steps
  refine wpC_call_K1 (K := hd.heap_39 w.params) rfl (wpC_of_any ?_)
  k_steps
  refine bl_law2 (r := r1) G F14 N14 (.tail _ (.tail _ (.tail _ (.head _)))) hsv (.tail _ (.head _)) hav hok (by rw [List.length_map]; exact hr1) (by rw [List.length_map]; omega) (fun j l _ _ hj => ?_) ?_
  · obtain ⟨q, hq, hk, h16⟩ := hat j l hj
    rw [hk]
    exact ⟨(vk_lt h16 hlo).1, ((vk_lt h16 hlo).2).trans (hc1 j q hq)⟩
  intro h15 tk15 t15 F15 N15
  clear F14 N14
  k_steps
  rename Fr _ _ _ _ => F16
  rename News _ _ _ _ => N16
  dsimp only at F16 N16 ⊢
  refine wpC_execs_cons (wpC_Assign_Name (wpC_Call_Name ?_))
  k_steps
  refine wpC_call_K1 (K := hd.heap_39 w.params) rfl (wpC_of_any ?_)
  k_steps
  refine br_law2 (r := r2) G F16 N16 (.tail _ (.tail _ (.tail _ (.head _)))) hsv (.head _) hag hok (by rw [List.length_map]; exact hr2) (by rw [List.length_map]; omega) (fun j l _ _ hj => ?_) ?_
  · obtain ⟨q, hq, hk, h16⟩ := hat j l hj
    rw [hk]
    exact ⟨(vk_lt hhi h16).1, ((vk_lt hhi h16).2).trans (hc2 j q hq)⟩
  intro h17 tk17 t17 F17 N17
  clear F16 N16
  k_steps
  rename Fr _ _ _ _ => F18
  rename News _ _ _ _ => N18
  dsimp only at F18 N18 ⊢
  refine win_two G F18 (fun p hp => N18 p (.tail _ (.tail _ hp))) ⟨rfl, rfl, rfl, rfl, rfl, trivial⟩ hol' hoh' h7 hnv hnl hr hb1 hb2 ?_ (fun _ h' tk' m' F' N' P' => k0 h' tk' m' oh' ol' _ _ hoh' hol' F' N' P') fun hlt h' tk' m' aP F' N' h3 h4 P' => k1 h' tk' m' oh' ol' _ _ aP r1 r2 _ _ hlt (by omega) hoh' hol' F' N' h3 h4 P'
  intro p hp
  rcases List.mem_cons.mp hp with rfl | hp
  · exact hw _ (.head _)
  rcases List.mem_cons.mp hp with rfl | hp
  · exact hw _ (.tail _ (.head _))
  rcases List.mem_cons.mp hp with rfl | hp
  · exact (h1 _ (.head _)).1.symm
  rcases List.mem_cons.mp hp with rfl | hp
  · exact (h1 _ (.head _)).2.symm
  · exact hw _ (.tail _ (.tail _ hp))
end Mine
end
section
open PySem PySem.W PyProof.Rows PySem.Calls LCg
set_option Elab.async false
set_option linter.unusedVariables false
set_option maxRecDepth 100000
namespace Mine
noncomputable def Apart7 (L a : Nat) : Prop := a ≠ L + 1 ∧ a ≠ L + 1 + 1 ∧ a ≠ L + 1 + 1 + 1 ∧ a ≠ L + 1 + 1 + 1 + 1 ∧ a ≠ L + 1 + 1 + 1 + 1 + 1 ∧ a ≠ L + 1 + 1 + 1 + 1 + 1 + 1 ∧ a ≠ L + 1 + 1 + 1 + 1 + 1 + 1 + 1
theorem Apart7.of_lt {L a : Nat} (h : L + 1 + 1 + 1 + 1 + 1 + 1 + 1 < a) : Apart7 L a := below7 h
theorem Apart7.h54 {L a : Nat} (h : Apart7 L a) : a ≠ L + 1 + 1 + 1 + 1 + 1 ∧ a ≠ L + 1 + 1 + 1 + 1 := ⟨h.2.2.2.2.1, h.2.2.2.1⟩
theorem cell_ne (L : Nat) : L + 1 + 1 + 1 + 1 + 1 + 1 + 1 ≠ L + 1 + 1 + 1 + 1 + 1 ∧ L + 1 + 1 + 1 + 1 + 1 + 1 + 1 ≠ L + 1 + 1 + 1 + 1 := by omega
theorem cell_ne2 (L : Nat) : L + 1 + 1 + 1 + 1 + 1 + 1 ≠ L + 1 + 1 + 1 + 1 + 1 ∧ L + 1 + 1 + 1 + 1 + 1 + 1 ≠ L + 1 + 1 + 1 + 1 := by omega
theorem cell_ne3 (L : Nat) : L + 1 + 1 + 1 ≠ L + 1 + 1 + 1 + 1 + 1 ∧ L + 1 + 1 + 1 ≠ L + 1 + 1 + 1 + 1 := by omega
theorem cell_ne4 (L : Nat) : L + 1 + 1 ≠ L + 1 + 1 + 1 + 1 + 1 ∧ L + 1 + 1 ≠ L + 1 + 1 + 1 + 1 := by omega
/-- the ledger of the windows' loop -/
noncomputable abbrev ledW (aW aS aN aT D L : Addr) (rr sv nv tv ws : List Value) (n nS : Nat) (oh ol d6 d7 c1 c2 c5 : Obj) (pl : List (Addr × Obj)) : List (Addr × Obj) :=
  (aW, W.listOf rr.toArray n) :: (aS, W.listOf sv.toArray nS) :: (aN, LCg.lst nv) :: (L + 1 + 1 + 1 + 1 + 1, oh) :: (L + 1 + 1 + 1 + 1, ol) :: (L + 1, d7) :: ((aT, LCg.lst tv) :: (D, W.listOf ws.toArray 0) :: (L + 1 + 1 + 1 + 1 + 1 + 1 + 1, c1) :: (L + 1 + 1 + 1 + 1 + 1 + 1, c2) :: (L + 1 + 1 + 1, c5) :: (L + 1 + 1, d6) :: pl)
noncomputable def JWin (aW aS aN aT D L : Addr) (Bd : Nat) (sv nv tv ws : List Value) (nS size : Nat) (d6 d7 c1 c2 c5 : Obj) (i : Nat) (m' : Str → Option Value) (nx : List (Addr × Obj)) : Prop :=
  ∃ rr n pl wl oh ol vh vl, nx = ledW aW aS aN aT D L rr sv nv tv ws n nS oh ol d6 d7 c1 c2 c5 pl ∧ oh.data = .cell vh ∧ ol.data = .cell vl ∧ (∀ p ∈ pl, @LT.lt Nat _ Bd p.1) ∧ PairsL pl rr wl ∧ wl.length ≤ i ∧ (∀ v ∈ wl, v.1 < v.2 ∧ v.2 ≤ size) ∧
    Pins m' [(Str.ofString "windows", .ref aW), (Str.ofString "shelf", .ref aS), (Str.ofString "draws", .ref D)]
theorem PairsL.snoc {pl : List (Addr × Obj)} {rs : List Value} {ps : List (Nat × Nat)} (h : PairsL pl rs ps) {a : Addr} {p : Nat × Nat} {t1 t2 : Tok} {n : Nat} : PairsL ((a, pairO p t1 t2 n) :: pl) (rs ++ [.ref a]) (ps ++ [p]) := by
  have := h.ins (Nat.le_refl _) (a := a) (p := p) (t1 := t1) (t2 := t2) (n := n)
  rw [List.take_length, List.drop_length, ← h.1, List.take_length, List.drop_length] at this
  exact this
set_option maxHeartbeats 8000000 in
theorem wins02 {w : World} {mg mb : Str → Option Value} {s : Shared} {Q : Flow → Shared → Prop} {hb : Heap} {L aS aT aN D : Addr} {sv tv nv ws : List Value} {nS : Nat} {xs : List Int} {qs : List (Nat × Nat)} {c1 c2 c3 c4 c5 d6 d7 : Obj} {v3 v4 : Option Value} {m : Str → Option Value} {cd : Value}
    (G : Gd w mg mb hb) (F : Fr hb L s.heap m)
    (N : News hb L s.heap ((aS, W.listOf sv.toArray nS) :: (aT, LCg.lst tv) :: (aN, LCg.lst nv) :: (D, W.listOf ws.toArray 0) :: cells7 L c1 c2 c3 c4 c5 d6 d7))
    (P : Pins m [(Str.ofString "shelf", .ref aS), (Str.ofString "draws", .ref D)])
    (h3 : c3.data = .cell v3) (h4 : c4.data = .cell v4) (h7 : d7.data = .cell (some (.ref aN)))
    (hS : Apart7 L aS) (hT : Apart7 L aT) (hN : Apart7 L aN) (hD : Apart7 L D)
    (hI : IntsAre ws xs) (h6 : xs.length ≤ 6) (hnv : IntsAre nv (zs (xs.map num))) (hsh : Shf (xs.map num) (xs.map num).length qs) (hsv : SV sv (qs.map (lbl xs)))
    (k : ∀ h' tk' m' aW rr n pl wl, Fr hb L h' m' → News hb L h' ((aW, W.listOf (List.toArray rr) n) :: (aS, W.listOf sv.toArray nS) :: (L + 1 + 1 + 1 + 1 + 1 + 1 + 1, c1) :: (L + 1 + 1 + 1 + 1 + 1 + 1, c2) :: (L + 1 + 1 + 1, c5) :: pl) →
      PairsL pl rr wl → wl.length ≤ 6 → (∀ v ∈ wl, v.1 < v.2 ∧ v.2 ≤ xs.length) → Apart7 L aW → (∀ p ∈ pl, Apart7 L p.1) → Pins m' [(Str.ofString "windows", .ref aW), (Str.ofString "shelf", .ref aS)] →
      wpC (model Challenge.rw_ph0088_02.row.prog w) (callerA.deeper (lawE L cd)) (execs (lawB 8) (lawE L cd)) Q NoE { s with heap := h', toks := tk' }) :
    wpC (model Challenge.rw_ph0088_02.row.prog w) (callerA.deeper (lawE L cd)) (execs (lawB 6) (lawE L cd)) Q NoE s := by
  have X := G.X
  have T := G.T
  revert X; k_fill; intro X
  have F1 := pins F _ P
  clear F
  change wpC _ (PySem.Around.deeper _ (envOfC _ ⟨_, _, _, _, _⟩ _ _ _)) (execs (_ :: _) (envOfC _ ⟨_, _, _, _, _⟩ _ _ _)) _ _ _
  dsimp only at F1 ⊢
  refine wpC_execs_any ?_
  k_steps
  refine wpC_execs_cons (wpC_For ?_)
  k_steps
  rename_i aW hW0 lW h8 F8 N8
  dsimp only at F8 N8 ⊢
  have lWL : @LT.lt Nat _ (L + 1 + 1 + 1 + 1 + 1 + 1 + 1) aW := lW.2.2.2.2.1
  have lWS : @LT.lt Nat _ aS aW := lW.1
  have lWT : @LT.lt Nat _ aT aW := lW.2.1
  have lWN : @LT.lt Nat _ aN aW := lW.2.2.1
  have lWD : @LT.lt Nat _ D aW := lW.2.2.2.1
  have hW : Apart7 L aW := .of_lt lWL
  have hBW : @LT.lt Nat _ aW h8.objs.size := Heap.lt_size (N8 _ (.head _)).1
  have hDm := N8 (D, W.listOf ws.toArray 0) (.tail _ (.tail _ (.tail _ (.tail _ (.head _)))))
  have hsz : ws.length = xs.length := IntsAre.length hI
  clear lW
  refine loopC_list (JWin aW aS aN aT D L h8.objs.size sv nv tv ws nS xs.length d6 d7 c1 c2 c5) rfl ⟨_, hDm.1, rfl, _, rfl⟩ hDm.2.1 hDm.2.2 F8
    (news := ledW aW aS aN aT D L [] sv nv tv ws 0 nS c3 c4 d6 d7 c1 c2 c5 []) (fun p hp => N8 p (by
      revert p
      repeat (first | exact List.forall_mem_nil _ | refine List.forall_mem_cons.mpr ⟨by repeat (first | exact List.Mem.head _ | refine List.Mem.tail _ ?_ | refine List.mem_append_right _ ?_), ?_⟩ | refine List.forall_mem_append.mpr ⟨fun z hz => by repeat (first | exact hz | exact List.mem_append_left _ hz | refine List.Mem.tail _ ?_ | refine List.mem_append_right _ ?_), ?_⟩ | exact fun z hz => by repeat (first | exact hz | exact List.mem_append_left _ hz | refine List.Mem.tail _ ?_ | refine List.mem_append_right _ ?_))))
    ⟨[], 0, [], [], c3, c4, v3, v4, rfl, h3, h4, (fun p hp => by cases hp), ⟨rfl, fun j p h => by simp at h⟩, Nat.le_refl _, (fun v hv => by cases hv), rfl, rfl, rfl, trivial⟩ ?_ ?_ ?_
  · rintro i v m₁ nx g tg own hv hown hob ⟨rr, n, pl, wl, oh, ol, vh, vl, rfl, hoh, hol, hpl, hpr, hwl, hval, P1⟩ F9 N9
    obtain ⟨x, tx, rfl, hx⟩ := hI.at i v hv
    have hix : i < xs.length := (List.getElem?_eq_some_iff.mp hx).1
    have N10 : News hb L g (ledW aW aS aN aT D L rr sv nv tv ws n nS oh ol d6 d7 c1 c2 c5 (pl ++ own)) := fun p hp => N9 p (by
      revert p
      repeat (first | exact List.forall_mem_nil _ | refine List.forall_mem_cons.mpr ⟨by repeat (first | exact List.Mem.head _ | refine List.Mem.tail _ ?_ | refine List.mem_append_right _ ?_), ?_⟩ | refine List.forall_mem_append.mpr ⟨fun z hz => by repeat (first | exact hz | exact List.mem_append_left _ hz | refine List.Mem.tail _ ?_ | refine List.mem_append_right _ ?_), ?_⟩ | exact fun z hz => by repeat (first | exact hz | exact List.mem_append_left _ hz | refine List.Mem.tail _ ?_ | refine List.mem_append_right _ ?_)))
    clear N9 F8 N8
    have hap : ∀ p ∈ (aT, LCg.lst tv) :: (D, W.listOf ws.toArray 0) :: (L + 1 + 1 + 1 + 1 + 1 + 1 + 1, c1) :: (L + 1 + 1 + 1 + 1 + 1 + 1, c2) :: (L + 1 + 1 + 1, c5) :: (L + 1 + 1, d6) :: (pl ++ own), (p.1 ≠ L + 1 + 1 + 1 + 1 + 1 ∧ p.1 ≠ L + 1 + 1 + 1 + 1) ∧ p.1 ≠ aW := by
      intro p hp
      rcases List.mem_cons.mp hp with rfl | hp
      · exact ⟨hT.h54, Nat.ne_of_lt lWT⟩
      rcases List.mem_cons.mp hp with rfl | hp
      · exact ⟨hD.h54, Nat.ne_of_lt lWD⟩
      rcases List.mem_cons.mp hp with rfl | hp
      · exact ⟨cell_ne _, Nat.ne_of_lt lWL⟩
      rcases List.mem_cons.mp hp with rfl | hp
      · exact ⟨cell_ne2 _, hW.2.2.2.2.2.1.symm⟩
      rcases List.mem_cons.mp hp with rfl | hp
      · exact ⟨cell_ne3 _, hW.2.2.1.symm⟩
      rcases List.mem_cons.mp hp with rfl | hp
      · exact ⟨cell_ne4 _, hW.2.1.symm⟩
      rcases List.mem_append.mp hp with hp | hp
      · have h0 : @LT.lt Nat _ aW p.1 := Nat.lt_trans hBW (hpl p hp)
        exact ⟨(Apart7.of_lt (Nat.lt_trans lWL h0)).h54, Nat.ne_of_gt h0⟩
      · rcases hown p hp with h | h
        · rw [h]; exact ⟨hD.h54, Nat.ne_of_lt lWD⟩
        · rw [h]; exact ⟨(Apart7.of_lt (Nat.lt_trans lWL hBW)).h54, Nat.ne_of_gt hBW⟩
    refine win_one (nums := xs.map num) (qs := qs) (lb := lbl xs) (tl := (aT, LCg.lst tv) :: (D, W.listOf ws.toArray 0) :: (L + 1 + 1 + 1 + 1 + 1 + 1 + 1, c1) :: (L + 1 + 1 + 1 + 1 + 1 + 1, c2) :: (L + 1 + 1 + 1, c5) :: (L + 1 + 1, d6) :: (pl ++ own)) G F9 N10 ⟨rfl, P1.1, P1.2.1, P1.2.2.1, trivial⟩ hol hoh h7 ?_ hnv hsh hsv (fun q hq => lbl_of hsh hq) (by rw [List.length_map]; exact h6) (by rw [hpr.1]; omega) ?_ ?_ ?_
    · intro p hp
      rcases List.mem_cons.mp hp with rfl | hp
      · exact hW.h54
      rcases List.mem_cons.mp hp with rfl | hp
      · exact hS.h54
      rcases List.mem_cons.mp hp with rfl | hp
      · exact hN.h54
      · exact (hap p hp).1
    · intro p hp
      rcases List.mem_cons.mp hp with rfl | hp
      · exact Nat.ne_of_lt lWS
      rcases List.mem_cons.mp hp with rfl | hp
      · exact Nat.ne_of_lt lWN
      rcases List.mem_cons.mp hp with rfl | hp
      · exact hW.1.symm
      · exact (hap p hp).2
    · intro h' tk' m' oh' ol' vh' vl' hoh' hol' F' N' P'
      refine ⟨h', tk', m', _, rfl, F', ?_, rr, n, pl, wl, oh', ol', vh', vl', rfl, hoh', hol', hpl, hpr, Nat.le_succ_of_le hwl, hval, P'⟩
      intro p hp
      refine N' p ?_
      revert p
      repeat (first | exact List.forall_mem_nil _ | refine List.forall_mem_cons.mpr ⟨by repeat (first | exact List.Mem.head _ | refine List.Mem.tail _ ?_ | refine List.mem_append_right _ ?_), ?_⟩ | refine List.forall_mem_append.mpr ⟨fun z hz => by repeat (first | exact hz | exact List.mem_append_left _ hz | refine List.Mem.tail _ ?_ | refine List.mem_append_right _ ?_), ?_⟩ | exact fun z hz => by repeat (first | exact hz | exact List.mem_append_left _ hz | refine List.Mem.tail _ ?_ | refine List.mem_append_right _ ?_))
    · intro h' tk' m' oh' ol' vh' vl' aP r1 r2 t3 t4 h12 hr2 hoh' hol' F' N' lP lT P'
      refine ⟨h', tk', m', _, rfl, F', ?_, rr ++ [.ref aP], n + 1, (aP, pairO (r1, r2) t3 t4 0) :: pl, wl ++ [(r1, r2)], oh', ol', vh', vl', rfl, hoh', hol', ?_, hpr.snoc, ?_, ?_, P'⟩
      · intro p hp
        refine N' p ?_
        revert p
        repeat (first | exact List.forall_mem_nil _ | refine List.forall_mem_cons.mpr ⟨by repeat (first | exact List.Mem.head _ | refine List.Mem.tail _ ?_ | refine List.mem_append_right _ ?_), ?_⟩ | refine List.forall_mem_append.mpr ⟨fun z hz => by repeat (first | exact hz | exact List.mem_append_left _ hz | refine List.Mem.tail _ ?_ | refine List.mem_append_right _ ?_), ?_⟩ | exact fun z hz => by repeat (first | exact hz | exact List.mem_append_left _ hz | refine List.Mem.tail _ ?_ | refine List.mem_append_right _ ?_))
      · intro p hp
        rcases List.mem_cons.mp hp with rfl | hp
        · obtain ⟨o, ho⟩ := hob
          exact allLt_mem lT (.tail _ (.tail _ (.tail _ (.tail _ (.tail _ (.tail _ (List.mem_append_right _ ho)))))))
        · exact hpl p hp
      · rw [List.length_append, List.length_singleton]; omega
      · intro v hv
        rcases List.mem_append.mp hv with hv | hv
        · exact hval v hv
        · rw [List.mem_singleton.mp hv]; exact ⟨h12, by rw [List.length_map] at hr2; exact hr2⟩
  · rintro i m' nx ⟨rr, n, pl, wl, oh, ol, vh, vl, rfl, hoh, hol, hpl, hpr, hwl, hval, P1⟩ p hp
    have hLB : @LT.lt Nat _ (L + 1 + 1 + 1 + 1 + 1 + 1 + 1) h8.objs.size := Nat.lt_trans lWL hBW
    have hB : Apart7 L h8.objs.size := .of_lt hLB
    rcases List.mem_cons.mp hp with rfl | hp
    · exact Nat.ne_of_lt hBW
    rcases List.mem_cons.mp hp with rfl | hp
    · exact Nat.ne_of_lt (Nat.lt_trans lWS hBW)
    rcases List.mem_cons.mp hp with rfl | hp
    · exact Nat.ne_of_lt (Nat.lt_trans lWN hBW)
    rcases List.mem_cons.mp hp with rfl | hp
    · exact hB.2.2.2.2.1.symm
    rcases List.mem_cons.mp hp with rfl | hp
    · exact hB.2.2.2.1.symm
    rcases List.mem_cons.mp hp with rfl | hp
    · exact hB.1.symm
    rcases List.mem_cons.mp hp with rfl | hp
    · exact Nat.ne_of_lt (Nat.lt_trans lWT hBW)
    rcases List.mem_cons.mp hp with rfl | hp
    · exact Nat.ne_of_lt (Nat.lt_trans lWD hBW)
    rcases List.mem_cons.mp hp with rfl | hp
    · exact hB.2.2.2.2.2.2.symm
    rcases List.mem_cons.mp hp with rfl | hp
    · exact hB.2.2.2.2.2.1.symm
    rcases List.mem_cons.mp hp with rfl | hp
    · exact hB.2.2.1.symm
    rcases List.mem_cons.mp hp with rfl | hp
    · exact hB.2.1.symm
    · exact Nat.ne_of_gt (hpl p hp)
  · rintro m₁ nx g tg ⟨rr, n, pl, wl, oh, ol, vh, vl, rfl, hoh, hol, hpl, hpr, hwl, hval, P1⟩ F9 N9
    refine k g tg m₁ aW rr n pl wl F9 (fun p hp => N9 p ?_) hpr (by omega) hval hW (fun p hp => .of_lt (Nat.lt_trans lWL (Nat.lt_trans hBW (hpl p hp)))) ⟨P1.1, P1.2.1, trivial⟩
    revert p
    repeat (first | exact List.forall_mem_nil _ | refine List.forall_mem_cons.mpr ⟨by repeat (first | exact List.Mem.head _ | refine List.Mem.tail _ ?_ | refine List.mem_append_right _ ?_), ?_⟩ | refine List.forall_mem_append.mpr ⟨fun z hz => by repeat (first | exact hz | exact List.mem_append_left _ hz | refine List.Mem.tail _ ?_ | refine List.mem_append_right _ ?_), ?_⟩ | exact fun z hz => by repeat (first | exact hz | exact List.mem_append_left _ hz | refine List.Mem.tail _ ?_ | refine List.mem_append_right _ ?_))
end Mine
end
section
set_option Elab.async false
set_option linter.unusedVariables false
namespace Mine
/-- small facts of numbers, proved once -/
theorem le4 {a b c d B : Nat} (h1 : a ≤ b) (h2 : b < c) (h3 : c ≤ d) (h4 : d ≤ B) : a ≤ B := Nat.le_trans h1 (Nat.le_trans (Nat.le_of_lt h2) (Nat.le_trans h3 h4))
theorem sub1 {a b : Nat} (h : a < b) : (b : Int) - 1 = ((b - 1 : Nat) : Int) := by omega
theorem pl1 {a b c : Nat} {P : Prop} (h : c < a) (e : a - 1 < b ↔ P) : (a ≤ b ↔ P) := by rw [← e]; omega
theorem pl2 {a b : Nat} {P : Prop} (e : b < a + 1 ↔ P) : (b ≤ a ↔ P) := by rw [← e]; omega
theorem pr1 {a b r mq met i n : Nat} (h : a < b) (h1 : b - 1 < a ↔ r ≤ mq) (h2 : met ≤ mq) (h3 : i ≤ met ∨ met = n) (h4 : mq < n) : i + 1 ≤ r := by
  have : ¬ r ≤ mq := fun x => by have := h1.mpr x; omega
  omega
theorem len_perm {ps : List α} {l : List α} {i : Nat} (h : ps.length = (l.take i).length) (hi : i < l.length) : ps.length = i := by
  rw [h, List.length_take]; exact Nat.min_eq_left (Nat.le_of_lt hi)
theorem len_snoc {l : List α} {x : α} {i : Nat} (h : l.length ≤ i) : (l ++ [x]).length ≤ i + 1 := by
  rw [List.length_append]; exact Nat.succ_le_succ h
end Mine
end
section
open PySem PySem.W PyProof.Rows PySem.Calls
set_option Elab.async false
set_option linter.unusedVariables false
set_option maxRecDepth 100000
namespace Mine
/-- the rows: where they stand -/
noncomputable def JRow (s : Shared) (aW : Addr) (Bd : Nat) (aR : Addr) (f : Nat × Nat → Nat × Nat) (ws : List (Nat × Nat)) (i : Nat) (m' : Str → Option Value) (nx : List (Addr × Obj)) : Prop :=
  ∃ ps rr n pl, nx = (aR, W.listOf (List.toArray rr) n) :: pl ∧ (∀ p ∈ pl, @LT.lt Nat _ Bd p.1) ∧ PairsL pl rr ps ∧ ps.Perm ((ws.take i).map f) ∧ Lex ps ∧ Pins m' [(Str.ofString "windows", .ref aW), (Str.ofString "row", .ref aR)]
noncomputable def JFr (ws ps : List (Nat × Nat)) (aR aB aC : Addr) (fixed : List (Addr × Obj)) (i : Nat) (m' : Str → Option Value) (nx : List (Addr × Obj)) : Prop :=
  ∃ ch cv n met bn t, nx = (aC, W.listOf (List.toArray cv) n) :: fixed ∧ IntsAre cv (zs ch) ∧ ch.length ≤ i ∧ (∀ l, Front ws bn l → Front ws 0 (ch ++ l)) ∧ met ≤ ps.length ∧ (∀ (j : Nat) (p : Nat × Nat), ps[j]? = some p → (bn ≤ p.1 ↔ met ≤ j)) ∧ (i ≤ met ∨ met = ps.length) ∧
    Pins m' [(Str.ofString "row", .ref aR), (Str.ofString "begins", .ref aB), (Str.ofString "chosen", .ref aC), (Str.ofString "met", .int (met : Int) t)]
set_option maxHeartbeats 80000000 in
theorem front_any {w : World} {mg mb : Str → Option Value} {A : PySem.Around} {E : Value → Shared → Prop} {s : Shared} {hb : Heap} {L : Addr} {m : Str → Option Value} {news : List (Addr × Obj)} {aW : Addr} {rs : List Value} {ws : List (Nat × Nat)} {Q : Value → Shared → Prop}
    (G : Gd w mg mb hb) (F : Fr hb L s.heap m) (N : News hb L s.heap news) (hroom : A.depth + 7 < recursionLimit) (hu : A.units + 500 < cLine) (hh : A.handled = none)
    (hW : s.heap.IsList aW rs.toArray) (hws : PairsB s.heap rs ws) (hlen : ws.length ≤ 100) (hval : ∀ v ∈ ws, v.1 < v.2)
    (k : ∀ h' tk' D vs n l, Fr hb L h' m → News hb L h' ((D, W.listOf (List.toArray vs) n) :: news) → (∀ p ∈ news, p.1 ≠ D) → IntsAre vs (zs l) → Front ws 0 l → Q (.ref D) { s with heap := h', toks := tk' }) :
    wpAny (model Challenge.rw_ph0088_02.row.prog w) A (call (.ref 106) [.ref aW]) Q E s := by
  obtain ⟨ah, ad, af, ag, au⟩ := A
  obtain rfl : ah = none := hh
  replace hroom : ad + 7 < recursionLimit := hroom
  replace hu : au + 500 < cLine := hu
  have Gs := G.keeps F.keep
  have X := Gs.X
  have T := Gs.T
  revert X; k_fill; intro X
  refine keep_at (fun v h' => ∃ D vs n l, v = .ref D ∧ h'.get? D = some (W.listOf (List.toArray vs) n) ∧ s.heap.get? D = none ∧ IntsAre vs (zs l) ∧ Front ws 0 l) F N (call_A (K := hd.heap_39 w.params) (binds := [(Str.ofString "windows", .ref aW)]) F.keep G.X G.T.nolimit rfl rfl (by show ad < _; exact units_lt0 hroom) (BindsTo.of_eq rfl) rfl (fun L' h₁ F' N' => ?_)) ?_
  · clear k F N
    refine stmt_any ?_
    k_steps
    refine nxt_go ?_
    rename Fr _ _ _ _ => F1
    rename News _ _ _ _ => N1
    rename_i aR h2 _ h3
    refine stmt_any (for_any ?_)
    k_steps
    unfold Nxt
    dsimp only at F1 N1 ⊢
    have hrl : rs.length = ws.length := hws.1
    have haR : @LT.lt Nat _ aR h3.objs.size := Heap.lt_size (N1 _ (.head _)).1
    generalize hBd : h3.objs.size = Bd at haR
    refine loopA_list (JRow s aW Bd aR id ws) hBd rfl (fun _ _ _ _ => .inl hW) F1 N1 ⟨[], [], 0, [], rfl, (fun p hp => by cases hp), ⟨rfl, fun j p h => by simp at h⟩, by simp, List.Pairwise.nil, rfl, rfl, trivial⟩ ?_ ?_ ?_
    · rintro i v m₁ nx h tk own hv hown hob ⟨ps, rr, n, pl, rfl, hpl, hpr, hperm, hlex, P1⟩ F2 N2
      have F3 := pins F2 _ P1
      clear F1 N1 F2
      obtain ⟨p, a, t1, t2, n0, rfl, hp, ha⟩ := hws.at hv
      have hir := (List.getElem?_eq_some_iff.mp hp).1
      have hpsl : ps.length = i := len_perm (by rw [hperm.length_eq, List.length_map]) hir
      have N5 : News s.heap L' h ((aR, W.listOf rr.toArray n) :: (pl ++ own)) := fun q hq => N2 q (by
        revert q
        repeat (first | exact List.forall_mem_nil _ | refine List.forall_mem_cons.mpr ⟨by repeat (first | exact List.Mem.head _ | refine List.Mem.tail _ ?_ | refine List.mem_append_right _ ?_), ?_⟩ | refine List.forall_mem_append.mpr ⟨fun z hz => by repeat (first | exact hz | exact List.mem_append_left _ hz | refine List.Mem.tail _ ?_ | refine List.mem_append_right _ ?_), ?_⟩ | exact fun z hz => by repeat (first | exact hz | exact List.mem_append_left _ hz | refine List.Mem.tail _ ?_ | refine List.mem_append_right _ ?_)))
      clear N2
      dsimp only
      refine kun_list F3 N5 (items := #[.int (p.1 : Int) t1, .int (p.2 : Int) t2]) ⟨_, F3.keep _ _ ha, rfl, _, rfl⟩ rfl rfl rfl ?_
      intro h4 F4 N4
      clear F3 N5
      k_steps
      unfold Nxt
      refine stmt_any ?_
      k_steps
      rename Fr _ _ _ _ => F6
      rename News _ _ _ _ => N6
      rename_i aP h6 lP
      obtain ⟨r, hr, hrc, hlex2⟩ := lex_right hlex p
      have hBP : @LT.lt Nat _ Bd aP := by
        obtain ⟨o, ho⟩ := hob
        exact allLt_mem lP.2 (List.mem_append_right _ ho)
      have hna : ∀ q ∈ (aP, pairO p t1 t2 0) :: (pl ++ own), q.1 ≠ aR := by
        intro q hq
        rcases List.mem_cons.mp hq with rfl | hq
        · exact Nat.ne_of_gt (Nat.lt_trans haR hBP)
        · rcases List.mem_append.mp hq with hq | hq
          · exact Nat.ne_of_gt (Nat.lt_trans haR (hpl q hq))
          · rw [hown q hq]; exact Nat.ne_of_gt haR
      refine irp Gs F6 (nw_cons N6 (.tail _ (.head _)) (nw_cons N6 (.head _) fun q hq => N6 q (.tail _ (.tail _ hq)))) hna (by show ad + 1 + 4 < _; exact units_lt2 hroom (by decide)) (by show au + _ + 200 < _; exact units_lt2 hu (by decide)) rfl (r := r) (by rw [hpr.1]; exact hr) (by rw [hpr.1, hpsl]; exact Nat.le_trans (Nat.le_of_lt hir) (Nat.le_trans hlen (by decide))) ?_ ?_
      · intro j v hj hv
        obtain ⟨q, b, u1, u2, n1, rfl, hq, hb⟩ := hpr.at hv
        rw [← hrc j q hq]
        exact ltAt_pairs (N6 _ (.head _)).1 (N6 _ (.tail _ (.tail _ (List.mem_append_left _ hb)))).1
      intro h8 tk8 n8 F8 N8
      clear F6 N6
      k_steps
      unfold Nxt
      refine wpAny_execs_nil ⟨_, _, _, _, rfl, F8, ?_, _, _, n8, (aP, pairO p t1 t2 0) :: pl, rfl, ?_, hpr.ins hr, perm_next (f := id) hperm hp, hlex2, rfl, rfl, trivial⟩
      · intro q hq
        refine N8 q ?_
        revert q
        repeat (first | exact List.forall_mem_nil _ | refine List.forall_mem_cons.mpr ⟨by repeat (first | exact List.Mem.head _ | refine List.Mem.tail _ ?_ | refine List.mem_append_right _ ?_), ?_⟩ | refine List.forall_mem_append.mpr ⟨fun z hz => by repeat (first | exact hz | exact List.mem_append_left _ hz | refine List.Mem.tail _ ?_ | refine List.mem_append_right _ ?_), ?_⟩ | exact fun z hz => by repeat (first | exact hz | exact List.mem_append_left _ hz | refine List.Mem.tail _ ?_ | refine List.mem_append_right _ ?_))
      · intro q hq
        rcases List.mem_cons.mp hq with rfl | hq
        · exact hBP
        · exact hpl q hq
    · rintro i m' nx ⟨ps, rr, n, pl, rfl, hpl, _⟩ p hp e
      rcases List.mem_cons.mp hp with rfl | hp
      · exact Nat.ne_of_lt haR e
      · exact Nat.ne_of_gt (hpl p hp) e
    · rintro m₁ nx h tk ⟨ps, rr, n, pl, rfl, hpl, hpr, hperm, hlex, P1⟩ F2 N2
      have F3 := pins F2 _ P1
      clear F1 N1 F2
      have hperm2 : ps.Perm ws := by rw [hrl, List.take_length, List.map_id] at hperm; exact hperm
      have hpsl : ps.length = ws.length := hperm2.length_eq
      dsimp only at F3 N2 ⊢
      refine stmt_any (comp_A F3 rfl (by with_unfolding_all rfl) (by rfl) (by decide) (by rfl) (by decide) (by rfl) (by rfl) ?_)
      k_steps
      refine comp_pr true rfl rfl F3 N2 (.inr ⟨_, .head _, rfl, _, rfl⟩) (PairsAt.of_L hpr fun p hp => .tail _ hp) (by rw [hpsl]; exact Nat.le_trans hlen (by decide)) ?_
      intro g bv hbv aB h5 tk5 F5 N5 o5
      clear F3 N2
      refine nxt_go ?_
      refine stmt_any ?_
      k_steps
      refine nxt_go ?_
      rename Fr _ _ _ _ => F6
      rename News _ _ _ _ => N6
      dsimp only at F6 N6 ⊢
      rename_i aC h6 lC T7 h7 lT x1 x2 x3 x4 x5
      have erl : rr.toArray.size = ws.length := by rw [List.size_toArray, hpr.1, hpsl]
      refine stmt_any (for_any ?_)
      k_steps
      unfold Nxt
      rename_i hrg F8 N8 hkp
      clear hkp
      dsimp only at hrg F8 N8 ⊢
      have N9 : News s.heap L' _ ((aC, W.listOf #[] 0) :: (aB, LCg.lst bv) :: (aR, W.listOf rr.toArray n) :: pl) := fun p hp => N8 p (.tail _ hp)
      clear N8
      have hall : ∀ p ∈ (aB, LCg.lst bv) :: (aR, W.listOf rr.toArray n) :: pl, @LT.lt Nat _ p.1 aC := by
        intro p hp
        rcases List.mem_cons.mp hp with rfl | hp
        · exact lC.1
        · rcases List.mem_cons.mp hp with rfl | hp
          · exact lC.2.1
          · exact allLt_mem lC.2.2 hp
      refine loopA_range (n := ws.length) (JFr ws ps aR aB aC ((aB, LCg.lst bv) :: (aR, W.listOf rr.toArray n) :: pl)) rfl rfl hrg rfl (Nat.le_trans hlen (by decide)) F8 N9 ⟨[], [], 0, 0, 0, _, rfl, .nil, Nat.le_refl _, fun l h => h, Nat.zero_le _, fun j p _ => ⟨fun _ => Nat.zero_le _, fun _ => Nat.zero_le _⟩, .inl (Nat.zero_le _), rfl, rfl, rfl, rfl, trivial⟩ ?_ ?_ ?_
      · rintro i ti m₁ nx h tk own hi hown hob ⟨ch, cv, nc, met, bn, tm, rfl, hcv, hcl, hfr, hmet, hcut, hprog, P1⟩ F10 N10
        have F11 := pins F10 _ P1
        have N11 : News s.heap L' h ((aC, W.listOf cv.toArray nc) :: (aB, LCg.lst bv) :: (aR, W.listOf rr.toArray n) :: (pl ++ own)) := fun q hq => N10 q (by
          revert q
          repeat (first | exact List.forall_mem_nil _ | refine List.forall_mem_cons.mpr ⟨by repeat (first | exact List.Mem.head _ | refine List.Mem.tail _ ?_ | refine List.mem_append_right _ ?_), ?_⟩ | refine List.forall_mem_append.mpr ⟨fun z hz => by repeat (first | exact hz | exact List.mem_append_left _ hz | refine List.Mem.tail _ ?_ | refine List.mem_append_right _ ?_), ?_⟩ | exact fun z hz => by repeat (first | exact hz | exact List.mem_append_left _ hz | refine List.Mem.tail _ ?_ | refine List.mem_append_right _ ?_)))
        clear F10 N10 F8
        have hBC : @LT.lt Nat _ aC _ := Heap.lt_size (N9 _ (.head _)).1
        clear N9
        k_steps
        unfold Nxt
        refine stmt_any (if_any ?_)
        k_steps
        · rename_i hlt
          have hlt : met < ws.length := by omega
          unfold Nxt
          replace hlen : Nxt (ws.length ≤ 100) := hlen
          replace hcl : Nxt (ch.length ≤ i) := hcl
          clear erl
          refine stmt_any ?_
          iterate 11 (first | walk1 | (dsimp only; walk1))
          rename Fr _ _ _ _ => F12
          rename News _ _ _ _ => N12
          refine comp_E F12 (by rfl) (by decide) (by rfl) (by decide) ?_
          iterate 7 (first | walk1 | (dsimp only; walk1))
          refine slice_list F12 N12 (items := rr.toArray) (lo := some (met : Int)) (hi := none) ⟨_, (N12 _ (.tail _ (.tail _ (.head _)))).1, rfl, _, rfl⟩ ?_ ?_ ?_ (hsz := ?_)
          · exact .int _ _
          · exact .none
          · intro h13 F13 N13
            rw [slicePick_from' rr.toArray met] at N13
            clear F12 N12
            dsimp only at F13 N13 ⊢
            refine comp_pr false rfl rfl F13 N13 (.inr ⟨_, .head _, rfl, _, rfl⟩) (PairsAt.drop (PairsAt.of_L hpr fun p hp => List.Mem.tail _ (.tail _ (.tail _ (.tail _ (List.mem_append_left _ hp))))) met) (by rw [List.length_drop, hpsl]; exact Nat.le_trans (Nat.sub_le _ _) (Nat.le_trans (show ws.length ≤ 100 from hlen) (by decide))) ?_
            intro g ev hev aE h14 tk14 F14 N14 o14
            clear F13 N13
            iterate 1 (first | walk1 | (dsimp only; walk1))
            refine min_list_N rfl F14 N14 ⟨_, (N14 _ (.head _)).1, rfl, _, rfl⟩ hev (by rw [List.length_map, List.length_map, List.length_drop, hpsl]; exact Nat.sub_pos_of_lt hlt) ?_
            intro h15 M tM tk15 F15 N15 hM1 hM2
            clear F14 N14
            obtain ⟨y, hy1, rfl⟩ := List.mem_map.mp hM1
            obtain ⟨q, hq1, rfl⟩ := List.mem_map.mp hy1
            rw [if_neg Bool.false_ne_true] at hM2 ⊢
            iterate 3 (first | walk1 | (dsimp only; walk1))
            have N16 : News s.heap L' h15 ((aC, W.listOf cv.toArray nc) :: (aB, LCg.lst bv) :: (aR, W.listOf rr.toArray n) :: (pl ++ own)) := fun p hp => N15 p (.tail _ (.tail _ hp))
            clear N15
            have hapart : ∀ p ∈ (aB, LCg.lst bv) :: (aR, W.listOf rr.toArray n) :: (pl ++ own), p.1 ≠ aC := by
              intro p hp
              rcases List.mem_cons.mp hp with rfl | hp
              · exact Nat.ne_of_lt lC.1
              · rcases List.mem_cons.mp hp with rfl | hp
                · exact Nat.ne_of_lt lC.2.1
                · rcases List.mem_append.mp hp with hp | hp
                  · exact Nat.ne_of_lt (allLt_mem lC.2.2 hp)
                  · exact fun e => Nat.lt_irrefl _ (Nat.lt_of_lt_of_eq hBC ((hown p hp).symm.trans e))
            have hcvl : cv.length = ch.length := by rw [hcv.length, List.length_map]
            refine append_K F15 N16 (.head hapart) ?_ ?_
            · intro h16 F16 N17
              clear F15 N16
              have hqd : ∃ mq, met ≤ mq ∧ ps[mq]? = some q := mem_drop_ix hq1
              obtain ⟨mq, hmq, hpq⟩ := hqd
              have hqw : q ∈ ws := hperm2.mem_iff.mp (List.mem_of_getElem? hpq)
              have hqv := hval q hqw
              rw [List.push_toArray, show ((q.2 : Nat) : Int) - 1 = ((q.2 - 1 : Nat) : Int) from sub1 hqv] at N17
              unfold Nxt
              refine stmt_any ?_
              iterate 12 (first | walk1 | (dsimp only; walk1))
              rename Fr _ _ _ _ => F17
              rename News _ _ _ _ => N17
              refine item_last (vs := cv) (v := .int ((q.2 - 1 : Nat) : Int) (tk15 + 1)) ⟨_, (N17 _ (.head _)).1, rfl, _, rfl⟩ ?_ ?_
              · have h1 : ch.length ≤ i := hcl
                have h2 : ws.length ≤ 100 := hlen
                rw [hcvl]; exact le4 h1 hi h2 (by decide)
              iterate 1 (first | walk1 | (dsimp only; walk1))
              refine ⟨Gs.X.keeps F17.keep, ?_⟩
              obtain ⟨r, hr, hrc⟩ := fst_right hlex (q.2 - 1)
              have hbl : bv.length = ps.length := by rw [hbv.length, List.length_map, List.length_map]
              refine brp2 Gs F17 N17 (by show ad + 1 + 2 < _; exact units_lt2 hroom (by decide)) (by show au + _ + 10 < _; exact units_lt2 hu (by decide)) rfl (r := r) ⟨_, (N17 _ (.tail _ (.head _))).1, rfl, _, rfl⟩ (by rw [hbl]; exact hr) (by rw [hbl, hpsl]; exact Nat.le_trans (show ws.length ≤ 100 from hlen) (by decide)) ?_ ?_
              · intro j v hj hv
                refine ltAt_right hbv hv fun x hx => ?_
                obtain ⟨p', hp', rfl⟩ := map_at hx
                exact hrc j p' hp'
              intro h18 tk18 t18 F18 N18
              clear F17 N17
              iterate 1 (first | walk1 | (dsimp only; walk1))
              unfold Nxt
              refine wpAny_execs_nil ?_
              rename Fr _ _ _ _ => F19
              rename News _ _ _ _ => N19
              refine wpAny_execs_nil ⟨_, _, _, _, rfl, F19, ?_, ch ++ [q.2 - 1], cv ++ [.int ((q.2 - 1 : Nat) : Int) (tk15 + 1)], nc + 1, r, q.2, t18, rfl, ints_snoc hcv, ?_, ?_, hr, ?_, ?_, rfl, rfl, rfl, rfl, trivial⟩
              · intro q hq
                refine N19 q ?_
                revert q
                repeat (first | exact List.forall_mem_nil _ | refine List.forall_mem_cons.mpr ⟨by repeat (first | exact List.Mem.head _ | refine List.Mem.tail _ ?_ | refine List.mem_append_right _ ?_), ?_⟩ | refine List.forall_mem_append.mpr ⟨fun z hz => by repeat (first | exact hz | exact List.mem_append_left _ hz | refine List.Mem.tail _ ?_ | refine List.mem_append_right _ ?_), ?_⟩ | exact fun z hz => by repeat (first | exact hz | exact List.mem_append_left _ hz | refine List.Mem.tail _ ?_ | refine List.mem_append_right _ ?_))
              · have h1 : ch.length ≤ i := hcl
                exact len_snoc h1
              · intro l hl
                rw [List.append_assoc]
                refine hfr _ (.cons hqw ((hcut mq q hpq).mpr hmq) (fun u hu hbu => ?_) hl)
                obtain ⟨j, hj⟩ := List.getElem?_of_mem (hperm2.mem_iff.mpr hu)
                have hj2 := (hcut j u hj).mp hbu
                have := hM2 (u.2 : Int) (List.mem_map.mpr ⟨u.2, List.mem_map.mpr ⟨u, List.mem_of_getElem? (i := j - met) (by rw [List.getElem?_drop, show met + (j - met) = j from Nat.add_sub_cancel' hj2]; exact hj), rfl⟩, rfl⟩)
                exact Int.ofNat_le.mp this
              · intro j p' hp'
                exact pl1 hqv (hrc j p' hp')
              · left
                exact pr1 hqv (hrc mq q hpq) hmq hprog (List.getElem?_eq_some_iff.mp hpq).1
            · have h1 : ch.length ≤ i := hcl
              have h2 : ws.length ≤ 100 := hlen
              rw [List.size_toArray, hcvl, sizeLine_eq]; exact le4 h1 hi h2 (by decide)
          · have h1 : ws.length ≤ 100 := hlen
            rw [List.size_toArray, hpr.1, sizeLine_eq, hpsl]; exact Nat.le_trans h1 (by decide)
        · rename_i hlt
          rename Fr _ _ _ _ => F7
          rename News _ _ _ _ => N7
          unfold Nxt
          refine wpAny_execs_nil ?_
          refine wpAny_execs_nil ⟨_, _, _, _, rfl, F7, ?_, ch, cv, nc, met, bn, tm, rfl, hcv, Nat.le_succ_of_le hcl, hfr, hmet, hcut, .inr (by omega), rfl, rfl, rfl, rfl, trivial⟩
          intro q hq
          refine N7 q ?_
          revert q
          repeat (first | exact List.forall_mem_nil _ | refine List.forall_mem_cons.mpr ⟨by repeat (first | exact List.Mem.head _ | refine List.Mem.tail _ ?_ | refine List.mem_append_right _ ?_), ?_⟩ | refine List.forall_mem_append.mpr ⟨fun z hz => by repeat (first | exact hz | exact List.mem_append_left _ hz | refine List.Mem.tail _ ?_ | refine List.mem_append_right _ ?_), ?_⟩ | exact fun z hz => by repeat (first | exact hz | exact List.mem_append_left _ hz | refine List.Mem.tail _ ?_ | refine List.mem_append_right _ ?_))
      · rintro i m' nx ⟨ch, cv, nc, met, bn, tm, rfl, _⟩ p hp
        have h1 := Heap.lt_size (N9 _ (.head _)).1
        rcases List.mem_cons.mp hp with rfl | hp
        · exact Nat.ne_of_lt h1
        · exact Nat.ne_of_lt (Nat.lt_trans (hall p hp) h1)
      · rintro m₁ nx h tk ⟨ch, cv, nc, met, bn, tm, rfl, hcv, hcl, hfr, hmet, hcut, hprog, P1⟩ F10 N10
        have F11 := pins F10 _ P1
        clear F10 F8
        dsimp only
        refine stmt_any ?_
        k_steps
        have hend : Front ws bn [] := .nil fun v hv => by
          obtain ⟨j, hj⟩ := List.getElem?_of_mem (hperm2.mem_iff.mpr hv)
          have h1 := hcut j v hj
          have h2 := (List.getElem?_eq_some_iff.mp hj).1
          omega
        have hfin := hfr [] hend
        rw [List.append_nil] at hfin
        exact ⟨.ref aC, h, _, rfl, rfl, F11.keep, aC, cv, nc, ch, rfl, (N10 _ (.head _)).1, (N10 _ (.head _)).2.2, hcv, hfin⟩
  · rintro v h' tk' K2 F2 N2 ⟨D, vs, n, l, rfl, e1, e2, hs, hf⟩
    exact k h' tk' D vs n l F2 (news_new F N e2 K2 e1) (new_apart F N e2).2.2 hs hf
end Mine
end
section
open PySem PySem.W PyProof.Rows PySem.Calls
set_option Elab.async false
set_option linter.unusedVariables false
set_option maxRecDepth 100000
namespace Mine
noncomputable def JBk (ws ps : List (Nat × Nat)) (B : Nat) (aR aB aC : Addr) (fixed : List (Addr × Obj)) (i : Nat) (m' : Str → Option Value) (nx : List (Addr × Obj)) : Prop :=
  ∃ ch cv n left en t, nx = (aC, W.listOf (List.toArray cv) n) :: fixed ∧ IntsAre cv (zs ch) ∧ ch.length ≤ i ∧ (∀ l, Back ws en l → Back ws B (ch ++ l)) ∧ left ≤ ps.length ∧ (∀ (j : Nat) (p : Nat × Nat), ps[j]? = some p → (p.1 ≤ en ↔ j < left)) ∧ (left + i ≤ ps.length ∨ left = 0) ∧
    Pins m' [(Str.ofString "row", .ref aR), (Str.ofString "ends", .ref aB), (Str.ofString "chosen", .ref aC), (Str.ofString "left", .int (left : Int) t)]
set_option maxHeartbeats 80000000 in
theorem back_any {w : World} {mg mb : Str → Option Value} {A : PySem.Around} {E : Value → Shared → Prop} {s : Shared} {hb : Heap} {L : Addr} {m : Str → Option Value} {news : List (Addr × Obj)} {aW : Addr} {rs : List Value} {ws : List (Nat × Nat)} {Q : Value → Shared → Prop}
    (G : Gd w mg mb hb) (F : Fr hb L s.heap m) (N : News hb L s.heap news) (hroom : A.depth + 7 < recursionLimit) (hu : A.units + 500 < cLine) (hh : A.handled = none)
    (hW : s.heap.IsList aW rs.toArray) (hws : PairsB s.heap rs ws) (hlen : ws.length ≤ 100) (hval : ∀ v ∈ ws, v.1 < v.2) {B : Nat} (hB : ∀ v ∈ ws, v.2 ≤ B)
    (k : ∀ h' tk' D vs n l, Fr hb L h' m → News hb L h' ((D, W.listOf (List.toArray vs) n) :: news) → (∀ p ∈ news, p.1 ≠ D) → IntsAre vs (zs l.reverse) → Back ws B l → Q (.ref D) { s with heap := h', toks := tk' }) :
    wpAny (model Challenge.rw_ph0088_02.row.prog w) A (call (.ref 111) [.ref aW]) Q E s := by
  obtain ⟨ah, ad, af, ag, au⟩ := A
  obtain rfl : ah = none := hh
  replace hroom : ad + 7 < recursionLimit := hroom
  replace hu : au + 500 < cLine := hu
  have Gs := G.keeps F.keep
  have X := Gs.X
  have T := Gs.T
  revert X; k_fill; intro X
  refine keep_at (fun v h' => ∃ D vs n l, v = .ref D ∧ h'.get? D = some (W.listOf (List.toArray vs) n) ∧ s.heap.get? D = none ∧ IntsAre vs (zs l.reverse) ∧ Back ws B l) F N (call_A (K := hd.heap_39 w.params) (binds := [(Str.ofString "windows", .ref aW)]) F.keep G.X G.T.nolimit rfl rfl (by show ad < _; exact units_lt0 hroom) (BindsTo.of_eq rfl) rfl (fun L' h₁ F' N' => ?_)) ?_
  · clear k F N
    refine stmt_any ?_
    k_steps
    refine nxt_go ?_
    rename Fr _ _ _ _ => F1
    rename News _ _ _ _ => N1
    rename_i aR h2 _ h3
    refine stmt_any (for_any ?_)
    k_steps
    unfold Nxt
    dsimp only at F1 N1 ⊢
    have hrl : rs.length = ws.length := hws.1
    have haR : @LT.lt Nat _ aR h3.objs.size := Heap.lt_size (N1 _ (.head _)).1
    generalize hBd : h3.objs.size = Bd at haR
    refine loopA_list (JRow s aW Bd aR sw ws) hBd rfl (fun _ _ _ _ => .inl hW) F1 N1 ⟨[], [], 0, [], rfl, (fun p hp => by cases hp), ⟨rfl, fun j p h => by simp at h⟩, by simp, List.Pairwise.nil, rfl, rfl, trivial⟩ ?_ ?_ ?_
    · rintro i v m₁ nx h tk own hv hown hob ⟨ps, rr, n, pl, rfl, hpl, hpr, hperm, hlex, P1⟩ F2 N2
      have F3 := pins F2 _ P1
      clear F1 N1 F2
      obtain ⟨p, a, t1, t2, n0, rfl, hp, ha⟩ := hws.at hv
      have hir := (List.getElem?_eq_some_iff.mp hp).1
      have hpsl : ps.length = i := len_perm (by rw [hperm.length_eq, List.length_map]) hir
      have N5 : News s.heap L' h ((aR, W.listOf rr.toArray n) :: (pl ++ own)) := fun q hq => N2 q (by
        revert q
        repeat (first | exact List.forall_mem_nil _ | refine List.forall_mem_cons.mpr ⟨by repeat (first | exact List.Mem.head _ | refine List.Mem.tail _ ?_ | refine List.mem_append_right _ ?_), ?_⟩ | refine List.forall_mem_append.mpr ⟨fun z hz => by repeat (first | exact hz | exact List.mem_append_left _ hz | refine List.Mem.tail _ ?_ | refine List.mem_append_right _ ?_), ?_⟩ | exact fun z hz => by repeat (first | exact hz | exact List.mem_append_left _ hz | refine List.Mem.tail _ ?_ | refine List.mem_append_right _ ?_)))
      clear N2
      dsimp only
      refine kun_list F3 N5 (items := #[.int (p.1 : Int) t1, .int (p.2 : Int) t2]) ⟨_, F3.keep _ _ ha, rfl, _, rfl⟩ rfl rfl rfl ?_
      intro h4 F4 N4
      clear F3 N5
      k_steps
      unfold Nxt
      refine stmt_any ?_
      k_steps
      rename Fr _ _ _ _ => F6
      rename News _ _ _ _ => N6
      rename_i aP h6 lP
      obtain ⟨r, hr, hrc, hlex2⟩ := lex_left hlex (sw p)
      have hBP : @LT.lt Nat _ Bd aP := by
        obtain ⟨o, ho⟩ := hob
        exact allLt_mem lP.2 (List.mem_append_right _ ho)
      have hna : ∀ q ∈ (aP, pairO (sw p) t2 t1 0) :: (pl ++ own), q.1 ≠ aR := by
        intro q hq
        rcases List.mem_cons.mp hq with rfl | hq
        · exact Nat.ne_of_gt (Nat.lt_trans haR hBP)
        · rcases List.mem_append.mp hq with hq | hq
          · exact Nat.ne_of_gt (Nat.lt_trans haR (hpl q hq))
          · rw [hown q hq]; exact Nat.ne_of_gt haR
      refine ilp Gs F6 (nw_cons N6 (.tail _ (.head _)) (nw_cons N6 (.head _) fun q hq => N6 q (.tail _ (.tail _ hq)))) hna (by show ad + 1 + 4 < _; exact units_lt2 hroom (by decide)) (by show au + _ + 200 < _; exact units_lt2 hu (by decide)) rfl (r := r) (by rw [hpr.1]; exact hr) (by rw [hpr.1, hpsl]; exact Nat.le_trans (Nat.le_of_lt hir) (Nat.le_trans hlen (by decide))) ?_ ?_
      · intro j v hj hv
        obtain ⟨q, b, u1, u2, n1, rfl, hq, hb⟩ := hpr.at hv
        rw [← hrc j q hq]
        exact ltAt_pairs (N6 _ (.tail _ (.tail _ (List.mem_append_left _ hb)))).1 (N6 _ (.head _)).1
      intro h8 tk8 n8 F8 N8
      clear F6 N6
      k_steps
      unfold Nxt
      refine wpAny_execs_nil ⟨_, _, _, _, rfl, F8, ?_, _, _, n8, (aP, pairO (sw p) t2 t1 0) :: pl, rfl, ?_, hpr.ins hr, perm_next (f := sw) hperm hp, hlex2, rfl, rfl, trivial⟩
      · intro q hq
        refine N8 q ?_
        revert q
        repeat (first | exact List.forall_mem_nil _ | refine List.forall_mem_cons.mpr ⟨by repeat (first | exact List.Mem.head _ | refine List.Mem.tail _ ?_ | refine List.mem_append_right _ ?_), ?_⟩ | refine List.forall_mem_append.mpr ⟨fun z hz => by repeat (first | exact hz | exact List.mem_append_left _ hz | refine List.Mem.tail _ ?_ | refine List.mem_append_right _ ?_), ?_⟩ | exact fun z hz => by repeat (first | exact hz | exact List.mem_append_left _ hz | refine List.Mem.tail _ ?_ | refine List.mem_append_right _ ?_))
      · intro q hq
        rcases List.mem_cons.mp hq with rfl | hq
        · exact hBP
        · exact hpl q hq
    · rintro i m' nx ⟨ps, rr, n, pl, rfl, hpl, _⟩ p hp e
      rcases List.mem_cons.mp hp with rfl | hp
      · exact Nat.ne_of_lt haR e
      · exact Nat.ne_of_gt (hpl p hp) e
    · rintro m₁ nx h tk ⟨ps, rr, n, pl, rfl, hpl, hpr, hperm, hlex, P1⟩ F2 N2
      have F3 := pins F2 _ P1
      clear F1 N1 F2
      have hperm2 : ps.Perm (ws.map sw) := by rw [hrl, List.take_length] at hperm; exact hperm
      have hpsl : ps.length = ws.length := by rw [hperm2.length_eq, List.length_map]
      have erl : rr.toArray.size = ws.length := by rw [List.size_toArray, hpr.1, hpsl]
      dsimp only at F3 N2 ⊢
      refine stmt_any (comp_A F3 rfl (by with_unfolding_all rfl) (by rfl) (by decide) (by rfl) (by decide) (by rfl) (by rfl) ?_)
      k_steps
      refine comp_pr true rfl rfl F3 N2 (.inr ⟨_, .head _, rfl, _, rfl⟩) (PairsAt.of_L hpr fun p hp => .tail _ hp) (by rw [hpsl]; exact Nat.le_trans hlen (by decide)) ?_
      intro g bv hbv aB h5 tk5 F5 N5 o5
      clear F3 N2
      refine nxt_go ?_
      refine stmt_any ?_
      k_steps
      refine nxt_go ?_
      rename Fr _ _ _ _ => F6
      rename News _ _ _ _ => N6
      dsimp only at F6 N6 ⊢
      rename_i aC h6 lC T7 h7 lT x1 x2 x3 x4 x5
      refine stmt_any (for_any ?_)
      k_steps
      unfold Nxt
      rename_i hrg F8 N8 hkp
      clear hkp
      dsimp only at hrg F8 N8 ⊢
      have N9 : News s.heap L' _ ((aC, W.listOf #[] 0) :: (aB, LCg.lst bv) :: (aR, W.listOf rr.toArray n) :: pl) := fun p hp => N8 p (.tail _ hp)
      clear N8
      have hall : ∀ p ∈ (aB, LCg.lst bv) :: (aR, W.listOf rr.toArray n) :: pl, @LT.lt Nat _ p.1 aC := by
        intro p hp
        rcases List.mem_cons.mp hp with rfl | hp
        · exact lC.1
        · rcases List.mem_cons.mp hp with rfl | hp
          · exact lC.2.1
          · exact allLt_mem lC.2.2 hp
      refine loopA_range (n := ws.length) (JBk ws ps B aR aB aC ((aB, LCg.lst bv) :: (aR, W.listOf rr.toArray n) :: pl)) rfl rfl hrg rfl (Nat.le_trans hlen (by decide)) F8 N9 ⟨[], [], 0, ws.length, B, _, rfl, .nil, Nat.le_refl _, fun l h => h, by omega, fun j p hp => ⟨fun _ => by have := (List.getElem?_eq_some_iff.mp hp).1; omega, fun _ => ?_⟩, .inl (by omega), rfl, rfl, rfl, rfl, trivial⟩ ?_ ?_ ?_
      · obtain ⟨v, hv, rfl⟩ := List.mem_map.mp (hperm2.mem_iff.mp (List.mem_of_getElem? hp))
        exact hB v hv
      · rintro i ti m₁ nx h tk own hi hown hob ⟨ch, cv, nc, met, bn, tm, rfl, hcv, hcl, hfr, hmet, hcut, hprog, P1⟩ F10 N10
        have F11 := pins F10 _ P1
        have N11 : News s.heap L' h ((aC, W.listOf cv.toArray nc) :: (aB, LCg.lst bv) :: (aR, W.listOf rr.toArray n) :: (pl ++ own)) := fun q hq => N10 q (by
          revert q
          repeat (first | exact List.forall_mem_nil _ | refine List.forall_mem_cons.mpr ⟨by repeat (first | exact List.Mem.head _ | refine List.Mem.tail _ ?_ | refine List.mem_append_right _ ?_), ?_⟩ | refine List.forall_mem_append.mpr ⟨fun z hz => by repeat (first | exact hz | exact List.mem_append_left _ hz | refine List.Mem.tail _ ?_ | refine List.mem_append_right _ ?_), ?_⟩ | exact fun z hz => by repeat (first | exact hz | exact List.mem_append_left _ hz | refine List.Mem.tail _ ?_ | refine List.mem_append_right _ ?_)))
        clear F10 N10 F8
        have hBC : @LT.lt Nat _ aC _ := Heap.lt_size (N9 _ (.head _)).1
        clear N9
        k_steps
        unfold Nxt
        refine stmt_any (if_any ?_)
        k_steps
        · rename_i hlt
          have hlt : 0 < met := by omega
          unfold Nxt
          replace hlen : Nxt (ws.length ≤ 100) := hlen
          replace hcl : Nxt (ch.length ≤ i) := hcl
          clear erl
          refine stmt_any ?_
          iterate 10 (first | walk1 | (dsimp only; walk1))
          rename Fr _ _ _ _ => F12
          rename News _ _ _ _ => N12
          refine comp_E F12 (by rfl) (by decide) (by rfl) (by decide) ?_
          iterate 7 (first | walk1 | (dsimp only; walk1))
          refine slice_list F12 N12 (items := rr.toArray) (lo := none) (hi := some (met : Int)) ⟨_, (N12 _ (.tail _ (.tail _ (.head _)))).1, rfl, _, rfl⟩ ?_ ?_ ?_ (hsz := ?_)
          · exact .none
          · exact .int _ _
          · intro h13 F13 N13
            rw [slicePick_upto' rr.toArray met] at N13
            clear F12 N12
            dsimp only at F13 N13 ⊢
            refine comp_pr false rfl rfl F13 N13 (.inr ⟨_, .head _, rfl, _, rfl⟩) (PairsAt.take (PairsAt.of_L hpr fun p hp => List.Mem.tail _ (.tail _ (.tail _ (.tail _ (List.mem_append_left _ hp))))) met) (by rw [List.length_take, hpsl]; exact Nat.le_trans (Nat.min_le_right _ _) (Nat.le_trans (show ws.length ≤ 100 from hlen) (by decide))) ?_
            intro g ev hev aE h14 tk14 F14 N14 o14
            clear F13 N13
            iterate 1 (first | walk1 | (dsimp only; walk1))
            refine max_list_N rfl F14 N14 ⟨_, (N14 _ (.head _)).1, rfl, _, rfl⟩ hev (by rw [List.length_map, List.length_map, List.length_take]; omega) ?_
            intro h15 M tM tk15 F15 N15 hM1 hM2
            clear F14 N14
            obtain ⟨y, hy1, rfl⟩ := List.mem_map.mp hM1
            obtain ⟨q, hq1, rfl⟩ := List.mem_map.mp hy1
            rw [if_neg Bool.false_ne_true] at hM2 ⊢
            iterate 1 (first | walk1 | (dsimp only; walk1))
            have N16 : News s.heap L' h15 ((aC, W.listOf cv.toArray nc) :: (aB, LCg.lst bv) :: (aR, W.listOf rr.toArray n) :: (pl ++ own)) := fun p hp => N15 p (.tail _ (.tail _ hp))
            clear N15
            have hapart : ∀ p ∈ (aB, LCg.lst bv) :: (aR, W.listOf rr.toArray n) :: (pl ++ own), p.1 ≠ aC := by
              intro p hp
              rcases List.mem_cons.mp hp with rfl | hp
              · exact Nat.ne_of_lt lC.1
              · rcases List.mem_cons.mp hp with rfl | hp
                · exact Nat.ne_of_lt lC.2.1
                · rcases List.mem_append.mp hp with hp | hp
                  · exact Nat.ne_of_lt (allLt_mem lC.2.2 hp)
                  · exact fun e => Nat.lt_irrefl _ (Nat.lt_of_lt_of_eq hBC ((hown p hp).symm.trans e))
            have hcvl : cv.length = ch.length := by rw [hcv.length, List.length_map]
            refine append_K F15 N16 (.head hapart) ?_ ?_
            · intro h16 F16 N17
              clear F15 N16
              have hqd : ∃ mq, mq < met ∧ ps[mq]? = some q := mem_take_ix hq1
              obtain ⟨mq, hmq, hpq⟩ := hqd
              obtain ⟨u0, hqw, rfl⟩ := List.mem_map.mp (hperm2.mem_iff.mp (List.mem_of_getElem? hpq))
              have hqv := hval u0 hqw
              rw [List.push_toArray] at N17
              unfold Nxt
              refine stmt_any ?_
              iterate 13 (first | walk1 | (dsimp only; walk1))
              rename Fr _ _ _ _ => F17
              rename News _ _ _ _ => N17
              refine item_last (vs := cv) (v := .int (u0.1 : Int) tM) ⟨_, (N17 _ (.head _)).1, rfl, _, rfl⟩ ?_ ?_
              · have h1 : ch.length ≤ i := hcl
                have h2 : ws.length ≤ 100 := hlen
                rw [hcvl]; exact le4 h1 hi h2 (by decide)
              iterate 3 (first | walk1 | (dsimp only; walk1))
              refine ⟨Gs.X.keeps F17.keep, ?_⟩
              rw [show ((u0.1 : Nat) : Int) + 1 = ((u0.1 + 1 : Nat) : Int) from rfl]
              obtain ⟨r, hr, hrc⟩ := fst_left hlex (u0.1 + 1)
              have hbl : bv.length = ps.length := by rw [hbv.length, List.length_map, List.length_map]
              refine blp2 Gs F17 N17 (by show ad + 1 + 2 < _; exact units_lt2 hroom (by decide)) (by show au + _ + 10 < _; exact units_lt2 hu (by decide)) rfl (r := r) ⟨_, (N17 _ (.tail _ (.head _))).1, rfl, _, rfl⟩ (by rw [hbl]; exact hr) (by rw [hbl, hpsl]; exact Nat.le_trans (show ws.length ≤ 100 from hlen) (by decide)) ?_ ?_
              · intro j v hj hv
                refine ltAt_left hbv hv fun x hx => ?_
                obtain ⟨p', hp', rfl⟩ := map_at hx
                exact hrc j p' hp'
              intro h18 tk18 t18 F18 N18
              clear F17 N17
              iterate 1 (first | walk1 | (dsimp only; walk1))
              unfold Nxt
              refine wpAny_execs_nil ?_
              rename Fr _ _ _ _ => F19
              rename News _ _ _ _ => N19
              refine wpAny_execs_nil ⟨_, _, _, _, rfl, F19, ?_, ch ++ [u0.1], cv ++ [.int (u0.1 : Int) tM], nc + 1, r, u0.1, t18, rfl, ints_snoc hcv, ?_, ?_, hr, ?_, ?_, rfl, rfl, rfl, rfl, trivial⟩
              · intro q hq
                refine N19 q ?_
                revert q
                repeat (first | exact List.forall_mem_nil _ | refine List.forall_mem_cons.mpr ⟨by repeat (first | exact List.Mem.head _ | refine List.Mem.tail _ ?_ | refine List.mem_append_right _ ?_), ?_⟩ | refine List.forall_mem_append.mpr ⟨fun z hz => by repeat (first | exact hz | exact List.mem_append_left _ hz | refine List.Mem.tail _ ?_ | refine List.mem_append_right _ ?_), ?_⟩ | exact fun z hz => by repeat (first | exact hz | exact List.mem_append_left _ hz | refine List.Mem.tail _ ?_ | refine List.mem_append_right _ ?_))
              · have h1 : ch.length ≤ i := hcl
                exact len_snoc h1
              · intro l hl
                rw [List.append_assoc]
                refine hfr _ (.cons hqw ((hcut mq _ hpq).mpr hmq) (fun u hu hbu => ?_) hl)
                obtain ⟨j, hj⟩ := List.getElem?_of_mem (hperm2.mem_iff.mpr (List.mem_map.mpr ⟨u, hu, rfl⟩))
                have hj2 := (hcut j _ hj).mp hbu
                have := hM2 (u.1 : Int) (List.mem_map.mpr ⟨u.1, List.mem_map.mpr ⟨sw u, List.mem_of_getElem? (i := j) (by rw [List.getElem?_take, if_pos hj2]; exact hj), rfl⟩, rfl⟩)
                exact Int.ofNat_le.mp this
              · intro j p' hp'
                exact pl2 (hrc j p' hp')
              · have h1 := hrc mq _ hpq
                have h2 : ¬ (u0.2 < u0.1 + 1) := by omega
                have h3 : ¬ mq < r := fun h => h2 (h1.mpr h)
                omega
            · have h1 : ch.length ≤ i := hcl
              have h2 : ws.length ≤ 100 := hlen
              rw [List.size_toArray, hcvl, sizeLine_eq]; exact le4 h1 hi h2 (by decide)
          · have h1 : ws.length ≤ 100 := hlen
            rw [List.size_toArray, hpr.1, sizeLine_eq, hpsl]; exact Nat.le_trans h1 (by decide)
        · rename_i hlt
          rename Fr _ _ _ _ => F7
          rename News _ _ _ _ => N7
          unfold Nxt
          refine wpAny_execs_nil ?_
          refine wpAny_execs_nil ⟨_, _, _, _, rfl, F7, ?_, ch, cv, nc, met, bn, tm, rfl, hcv, Nat.le_succ_of_le hcl, hfr, hmet, hcut, .inr (by omega), rfl, rfl, rfl, rfl, trivial⟩
          intro q hq
          refine N7 q ?_
          revert q
          repeat (first | exact List.forall_mem_nil _ | refine List.forall_mem_cons.mpr ⟨by repeat (first | exact List.Mem.head _ | refine List.Mem.tail _ ?_ | refine List.mem_append_right _ ?_), ?_⟩ | refine List.forall_mem_append.mpr ⟨fun z hz => by repeat (first | exact hz | exact List.mem_append_left _ hz | refine List.Mem.tail _ ?_ | refine List.mem_append_right _ ?_), ?_⟩ | exact fun z hz => by repeat (first | exact hz | exact List.mem_append_left _ hz | refine List.Mem.tail _ ?_ | refine List.mem_append_right _ ?_))
      · rintro i m' nx ⟨ch, cv, nc, met, bn, tm, rfl, _⟩ p hp
        have h1 := Heap.lt_size (N9 _ (.head _)).1
        rcases List.mem_cons.mp hp with rfl | hp
        · exact Nat.ne_of_lt h1
        · exact Nat.ne_of_lt (Nat.lt_trans (hall p hp) h1)
      · rintro m₁ nx h tk ⟨ch, cv, nc, met, bn, tm, rfl, hcv, hcl, hfr, hmet, hcut, hprog, P1⟩ F10 N10
        have F11 := pins F10 _ P1
        clear F10 F8
        dsimp only
        refine stmt_any ?_
        k_steps
        rename News _ _ _ _ => N12
        rename Fr _ _ _ _ => F12
        rename_i D5 cr h20 hcr _ _
        have hend : Back ws bn [] := .nil fun v hv => by
          obtain ⟨j, hj⟩ := List.getElem?_of_mem (hperm2.mem_iff.mpr (List.mem_map.mpr ⟨v, hv, rfl⟩))
          have h1 := hcut j _ hj
          have h2 : ¬ j < met := by omega
          have h3 : ¬ v.2 ≤ bn := fun h => h2 (h1.mp h)
          omega
        have hfin := hfr [] hend
        rw [List.append_nil] at hfin
        exact ⟨_, _, _, rfl, rfl, F12.keep, D5, cr, 0, ch, rfl, (N12 _ (.head _)).1, (N12 _ (.head _)).2.2, by unfold zs; rw [List.map_reverse]; exact hcr, hfin⟩
  · rintro v h' tk' K2 F2 N2 ⟨D, vs, n, l, rfl, e1, e2, hs, hf⟩
    exact k h' tk' D vs n l F2 (news_new F N e2 K2 e1) (new_apart F N e2).2.2 hs hf
end Mine
end
section
open PySem PySem.W PyProof.Rows PySem.Calls
set_option Elab.async false
set_option linter.unusedVariables false
set_option maxRecDepth 100000
namespace Mine
noncomputable def JRo (s : Shared) (aW : Addr) (Bd : Nat) (aR aM : Addr) (mo : Obj) (ws : List (Nat × Nat)) (i : Nat) (m' : Str → Option Value) (nx : List (Addr × Obj)) : Prop :=
  ∃ ps rr n pl, nx = (aR, W.listOf (List.toArray rr) n) :: (aM, mo) :: pl ∧ (∀ p ∈ pl, @LT.lt Nat _ Bd p.1) ∧ PairsL pl rr ps ∧ ps.Perm ((ws.take i).map sw) ∧ Lex ps ∧ Pins m' [(Str.ofString "windows", .ref aW), (Str.ofString "row", .ref aR), (Str.ofString "most", .ref aM)]
noncomputable def JAp (ps : List (Nat × Nat)) (aB aM : Addr) (fixed : List (Addr × Obj)) (i : Nat) (m' : Str → Option Value) (nx : List (Addr × Obj)) : Prop :=
  ∃ mo mv n, nx = (aM, W.listOf (List.toArray mv) n) :: fixed ∧ IntsAre mv (zs mo) ∧ mo.length = i + 1 ∧ Most ps mo ∧ Pins m' [(Str.ofString "ends", .ref aB), (Str.ofString "most", .ref aM)]
theorem most_snoc {ps : List (Nat × Nat)} {mo : List Nat} {i r x y : Nat} {p : Nat × Nat} (h : Most ps mo) (hl : mo.length = i + 1) (hp : ps[i]? = some p) (hrc : ∀ (m : Nat) (q : Nat × Nat), ps[m]? = some q → (p.2 < q.1 ↔ r ≤ m)) (hri : r ≤ i) (hx : mo[r]? = some x) (hy : mo[i]? = some y) : Most ps (mo ++ [max y (x + 1)]) := by
  have old : ∀ k z, mo[k]? = some z → (mo ++ [max y (x + 1)])[k]? = some z := fun k z hz => by
    rw [List.getElem?_append_left (List.getElem?_eq_some_iff.mp hz).1]; exact hz
  refine ⟨old _ _ h.1, fun j q hj hq => ?_⟩
  rw [List.length_append, List.length_singleton, hl] at hj
  by_cases e : j = i
  · subst e
    rw [hp] at hq; cases hq
    refine ⟨r, x, y, hrc, hri, old _ _ hx, old _ _ hy, ?_⟩
    rw [List.getElem?_append_right (by omega), hl, Nat.sub_self]; rfl
  · obtain ⟨r', x', y', e1, e2, e3, e4, e5⟩ := h.2 j q (by omega) hq
    exact ⟨r', x', y', e1, e2, old _ _ e3, old _ _ e4, old _ _ e5⟩
set_option maxHeartbeats 80000000 in
theorem apart_any {w : World} {mg mb : Str → Option Value} {A : PySem.Around} {E : Value → Shared → Prop} {s : Shared} {hb : Heap} {L : Addr} {m : Str → Option Value} {news : List (Addr × Obj)} {aW : Addr} {rs : List Value} {ws : List (Nat × Nat)} {Q : Value → Shared → Prop}
    (G : Gd w mg mb hb) (F : Fr hb L s.heap m) (N : News hb L s.heap news) (hroom : A.depth + 7 < recursionLimit) (hu : A.units + 500 < cLine) (hh : A.handled = none)
    (hW : s.heap.IsList aW rs.toArray) (hws : PairsB s.heap rs ws) (hlen : ws.length ≤ 100) (hval : ∀ v ∈ ws, v.1 < v.2)
    (k : ∀ h' tk' t ps mo x, Fr hb L h' m → News hb L h' news → ps.Perm (ws.map sw) → Lex ps → Most ps mo → mo.length = ps.length + 1 → mo[ps.length]? = some x → Q (.int ((x : Nat) : Int) t) { s with heap := h', toks := tk' }) :
    wpAny (model Challenge.rw_ph0088_02.row.prog w) A (call (.ref 116) [.ref aW]) Q E s := by
  obtain ⟨ah, ad, af, ag, au⟩ := A
  obtain rfl : ah = none := hh
  replace hroom : ad + 7 < recursionLimit := hroom
  replace hu : au + 500 < cLine := hu
  have Gs := G.keeps F.keep
  have X := Gs.X
  have T := Gs.T
  revert X; k_fill; intro X
  refine keep_at (fun v h' => ∃ t ps mo x, v = .int ((x : Nat) : Int) t ∧ ps.Perm (ws.map sw) ∧ Lex ps ∧ Most ps mo ∧ mo.length = ps.length + 1 ∧ mo[ps.length]? = some x) F N (call_A (K := hd.heap_39 w.params) (binds := [(Str.ofString "windows", .ref aW)]) F.keep G.X G.T.nolimit rfl rfl (by show ad < _; exact units_lt0 hroom) (BindsTo.of_eq rfl) rfl (fun L' h₁ F' N' => ?_)) ?_
  · clear k F N
    refine stmt_any ?_
    k_steps
    refine nxt_go ?_
    rename Fr _ _ _ _ => F1
    rename News _ _ _ _ => N1
    rename_i aR hq1 _ aM hq2 lM T0 hq3 lT hq4 hq5 h3
    have N1' : News s.heap L' h3 [(aR, W.listOf #[] 0), (aM, W.listOf #[.int 0 (s.toks + [(Str.ofString "windows", Value.ref aW)].length)] 0)] := nw_cons N1 (.tail _ (.tail _ (.head _))) (nw_cons N1 (.tail _ (.head _)) nw_nil)
    generalize s.toks + [(Str.ofString "windows", Value.ref aW)].length = t0 at N1' ⊢
    clear N1
    refine stmt_any (for_any ?_)
    k_steps
    unfold Nxt
    dsimp only at F1 ⊢
    have hrl : rs.length = ws.length := hws.1
    have haM : @LT.lt Nat _ aM h3.objs.size := Heap.lt_size (N1' _ (.tail _ (.head _))).1
    have haR : @LT.lt Nat _ aR aM := lM
    generalize hBd : h3.objs.size = Bd at haM
    refine loopA_list (JRo s aW Bd aR aM (W.listOf #[.int 0 t0] 0) ws) hBd rfl (fun _ _ _ _ => .inl hW) F1 N1' ⟨[], [], 0, [], rfl, (fun p hp => by cases hp), ⟨rfl, fun j p h => by simp at h⟩, by simp, List.Pairwise.nil, rfl, rfl, rfl, trivial⟩ ?_ ?_ ?_
    · rintro i v m₁ nx h tk own hv hown hob ⟨ps, rr, n, pl, rfl, hpl, hpr, hperm, hlex, P1⟩ F2 N2
      have F3 := pins F2 _ P1
      clear F1 N1' F2
      obtain ⟨p, a, t1, t2, n0, rfl, hp, ha⟩ := hws.at hv
      have hir := (List.getElem?_eq_some_iff.mp hp).1
      have hpsl : ps.length = i := len_perm (by rw [hperm.length_eq, List.length_map]) hir
      have N5 : News s.heap L' h ((aR, W.listOf rr.toArray n) :: (aM, W.listOf #[.int 0 t0] 0) :: (pl ++ own)) := fun q hq => N2 q (by
        revert q
        repeat (first | exact List.forall_mem_nil _ | refine List.forall_mem_cons.mpr ⟨by repeat (first | exact List.Mem.head _ | refine List.Mem.tail _ ?_ | refine List.mem_append_right _ ?_), ?_⟩ | refine List.forall_mem_append.mpr ⟨fun z hz => by repeat (first | exact hz | exact List.mem_append_left _ hz | refine List.Mem.tail _ ?_ | refine List.mem_append_right _ ?_), ?_⟩ | exact fun z hz => by repeat (first | exact hz | exact List.mem_append_left _ hz | refine List.Mem.tail _ ?_ | refine List.mem_append_right _ ?_)))
      clear N2
      dsimp only
      refine kun_list F3 N5 (items := #[.int (p.1 : Int) t1, .int (p.2 : Int) t2]) ⟨_, F3.keep _ _ ha, rfl, _, rfl⟩ rfl rfl rfl ?_
      intro h4 F4 N4
      clear F3 N5
      k_steps
      unfold Nxt
      refine stmt_any ?_
      k_steps
      rename Fr _ _ _ _ => F6
      rename News _ _ _ _ => N6
      rename_i aP h6 lP
      obtain ⟨r, hr, hrc, hlex2⟩ := lex_left hlex (sw p)
      have hBP : @LT.lt Nat _ Bd aP := by
        obtain ⟨o, ho⟩ := hob
        exact allLt_mem lP.2.2 (List.mem_append_right _ ho)
      have hna : ∀ q ∈ (aP, pairO (sw p) t2 t1 0) :: (aM, W.listOf #[.int 0 t0] 0) :: (pl ++ own), q.1 ≠ aR := by
        intro q hq
        rcases List.mem_cons.mp hq with rfl | hq
        · exact Nat.ne_of_gt (Nat.lt_trans haR (Nat.lt_trans haM hBP))
        · rcases List.mem_cons.mp hq with rfl | hq
          · exact Nat.ne_of_gt haR
          · rcases List.mem_append.mp hq with hq | hq
            · exact Nat.ne_of_gt (Nat.lt_trans haR (Nat.lt_trans haM (hpl q hq)))
            · rw [hown q hq]; exact Nat.ne_of_gt (Nat.lt_trans haR haM)
      refine ilp Gs F6 (nw_cons N6 (.tail _ (.head _)) (nw_cons N6 (.head _) fun q hq => N6 q (.tail _ (.tail _ hq)))) hna (by show ad + 1 + 4 < _; exact units_lt2 hroom (by decide)) (by show au + _ + 200 < _; exact units_lt2 hu (by decide)) rfl (r := r) (by rw [hpr.1]; exact hr) (by rw [hpr.1, hpsl]; exact Nat.le_trans (Nat.le_of_lt hir) (Nat.le_trans hlen (by decide))) ?_ ?_
      · intro j v hj hv
        obtain ⟨q, b, u1, u2, n1, rfl, hq, hb⟩ := hpr.at hv
        rw [← hrc j q hq]
        exact ltAt_pairs (N6 _ (.tail _ (.tail _ (.tail _ (List.mem_append_left _ hb))))).1 (N6 _ (.head _)).1
      intro h8 tk8 n8 F8 N8
      clear F6 N6
      k_steps
      unfold Nxt
      refine wpAny_execs_nil ⟨_, _, _, _, rfl, F8, ?_, _, _, n8, (aP, pairO (sw p) t2 t1 0) :: pl, rfl, ?_, hpr.ins hr, perm_next (f := sw) hperm hp, hlex2, rfl, rfl, rfl, trivial⟩
      · intro q hq
        refine N8 q ?_
        revert q
        repeat (first | exact List.forall_mem_nil _ | refine List.forall_mem_cons.mpr ⟨by repeat (first | exact List.Mem.head _ | refine List.Mem.tail _ ?_ | refine List.mem_append_right _ ?_), ?_⟩ | refine List.forall_mem_append.mpr ⟨fun z hz => by repeat (first | exact hz | exact List.mem_append_left _ hz | refine List.Mem.tail _ ?_ | refine List.mem_append_right _ ?_), ?_⟩ | exact fun z hz => by repeat (first | exact hz | exact List.mem_append_left _ hz | refine List.Mem.tail _ ?_ | refine List.mem_append_right _ ?_))
      · intro q hq
        rcases List.mem_cons.mp hq with rfl | hq
        · exact hBP
        · exact hpl q hq
    · rintro i m' nx ⟨ps, rr, n, pl, rfl, hpl, _⟩ p hp e
      rcases List.mem_cons.mp hp with rfl | hp
      · exact Nat.ne_of_lt (Nat.lt_trans haR haM) e
      · rcases List.mem_cons.mp hp with rfl | hp
        · exact Nat.ne_of_lt haM e
        · exact Nat.ne_of_gt (hpl p hp) e
    · rintro m₁ nx h tk ⟨ps, rr, n, pl, rfl, hpl, hpr, hperm, hlex, P1⟩ F2 N2
      have F3 := pins F2 _ P1
      clear F1 N1' F2
      have hperm2 : ps.Perm (ws.map sw) := by rw [hrl, List.take_length] at hperm; exact hperm
      have hpsl : ps.length = ws.length := by rw [hperm2.length_eq, List.length_map]
      have hrrl : rr.length = ws.length := by rw [hpr.1, hpsl]
      dsimp only at F3 N2 ⊢
      refine stmt_any (comp_A F3 rfl (by with_unfolding_all rfl) (by rfl) (by decide) (by rfl) (by decide) (by rfl) (by rfl) ?_)
      k_steps
      refine comp_pr true rfl rfl F3 N2 (.inr ⟨_, .head _, rfl, _, rfl⟩) (PairsAt.of_L hpr fun p hp => .tail _ (.tail _ hp)) (by rw [hpsl]; exact Nat.le_trans hlen (by decide)) ?_
      intro g bv hbv aB h5 tk5 F5 N5 o5
      have N6 : News s.heap L' h5 ((aM, W.listOf #[.int 0 t0] 0) :: (aB, LCg.lst bv) :: (aR, W.listOf rr.toArray n) :: pl) := fun q hq => N5 q (by
        revert q
        repeat (first | exact List.forall_mem_nil _ | refine List.forall_mem_cons.mpr ⟨by repeat (first | exact List.Mem.head _ | refine List.Mem.tail _ ?_ | refine List.mem_append_right _ ?_), ?_⟩ | refine List.forall_mem_append.mpr ⟨fun z hz => by repeat (first | exact hz | exact List.mem_append_left _ hz | refine List.Mem.tail _ ?_ | refine List.mem_append_right _ ?_), ?_⟩ | exact fun z hz => by repeat (first | exact hz | exact List.mem_append_left _ hz | refine List.Mem.tail _ ?_ | refine List.mem_append_right _ ?_)))
      have hMB : aM ≠ aB := o5.2.1
      clear F3 N2 N5
      refine nxt_go ?_
      refine stmt_any (for_any ?_)
      k_steps
      unfold Nxt
      dsimp only at F5 ⊢
      have hlt2 : ∀ p ∈ (aM, W.listOf #[.int 0 t0] 0) :: (aB, LCg.lst bv) :: (aR, W.listOf rr.toArray n) :: pl, @LT.lt Nat _ p.1 h5.objs.size := fun p hp => Heap.lt_size (N6 p hp).1
      generalize hBd2 : h5.objs.size = Bd2 at hlt2
      have hM2 : @LT.lt Nat _ aM Bd2 := hlt2 _ (.head _)
      refine loopA_list (vs := rr) (JAp ps aB aM ((aB, LCg.lst bv) :: (aR, W.listOf rr.toArray n) :: pl)) hBd2 rfl ?_ F5 N6 ⟨[0], [.int 0 t0], 0, rfl, .cons 0 t0 .nil, rfl, ⟨rfl, fun j p h => by simp at h⟩, rfl, rfl, trivial⟩ ?_ ?_ ?_
      · rintro i m' nx ⟨mo, mv, n', rfl, _⟩
        exact .inr ⟨_, .tail _ (.tail _ (.head _)), rfl, _, rfl⟩
      · rintro i v m₁ nx h tk own hv hown hob ⟨mo, mv, nm, rfl, hmv, hmol, hmost, P1⟩ F10 N10
        have F11 := pins F10 _ P1
        obtain ⟨p, a, t1, t2, n0, rfl, hp, ha⟩ := hpr.at hv
        have hir := (List.getElem?_eq_some_iff.mp hp).1
        have N11 : News s.heap L' h ((aM, W.listOf mv.toArray nm) :: (aB, LCg.lst bv) :: (aR, W.listOf rr.toArray n) :: (pl ++ own)) := fun q hq => N10 q (by
          revert q
          repeat (first | exact List.forall_mem_nil _ | refine List.forall_mem_cons.mpr ⟨by repeat (first | exact List.Mem.head _ | refine List.Mem.tail _ ?_ | refine List.mem_append_right _ ?_), ?_⟩ | refine List.forall_mem_append.mpr ⟨fun z hz => by repeat (first | exact hz | exact List.mem_append_left _ hz | refine List.Mem.tail _ ?_ | refine List.mem_append_right _ ?_), ?_⟩ | exact fun z hz => by repeat (first | exact hz | exact List.mem_append_left _ hz | refine List.Mem.tail _ ?_ | refine List.mem_append_right _ ?_)))
        clear F10 N10 F5 N6
        have hapart : ∀ q ∈ (aB, LCg.lst bv) :: (aR, W.listOf rr.toArray n) :: (pl ++ own), q.1 ≠ aM := by
          intro q hq
          rcases List.mem_cons.mp hq with rfl | hq
          · exact fun e => hMB e.symm
          · rcases List.mem_cons.mp hq with rfl | hq
            · exact Nat.ne_of_lt haR
            · rcases List.mem_append.mp hq with hq | hq
              · exact Nat.ne_of_gt (Nat.lt_trans haM (hpl q hq))
              · rw [hown q hq]; exact Nat.ne_of_gt (hlt2 _ (.head _))
        dsimp only
        refine kun_list F11 N11 (items := #[.int (p.1 : Int) t1, .int (p.2 : Int) t2]) ⟨_, (N11 _ (.tail _ (.tail _ (.tail _ (List.mem_append_left _ ha))))).1, rfl, _, rfl⟩ rfl rfl rfl ?_
        intro h12 F12 N12
        clear F11 N11
        k_steps
        unfold Nxt
        refine stmt_any ?_
        replace hlen : Nxt (ws.length ≤ 100) := hlen
        iterate 15 (first | walk1 | (dsimp only; walk1))
        rename Fr _ _ _ _ => F13
        rename News _ _ _ _ => N13
        have hmvl : mv.length = i + 1 := by rw [hmv.length, List.length_map, hmol]
        have hi100 : i ≤ 1000 := Nat.le_trans (Nat.le_of_lt (show i < ws.length by omega)) (Nat.le_trans (show ws.length ≤ 100 from hlen) (by decide))
        obtain ⟨y, hy⟩ : ∃ y, mo[i]? = some y := ⟨_, List.getElem?_eq_getElem (by omega)⟩
        obtain ⟨ty, hty⟩ := ints_of hmv hy
        refine item_lastAt (vs := mv) (k := i) ⟨_, (N13 _ (.head _)).1, rfl, _, rfl⟩ hmvl (by omega) hty ?_
        k_steps
        obtain ⟨r, hr, hrc⟩ := fst_right hlex p.2
        have hbl : bv.length = ps.length := by rw [hbv.length, List.length_map, List.length_map]
        have hpw : p ∈ ws.map sw := hperm2.mem_iff.mp (List.mem_of_getElem? hp)
        obtain ⟨u0, hu0, rfl⟩ := List.mem_map.mp hpw
        have hqv := hval u0 hu0
        have hri : r ≤ i := (hrc i _ hp).mp hqv
        refine brp2 Gs F13 N13 (by show ad + 1 + 2 < _; exact units_lt2 hroom (by decide)) (by show au + _ + 10 < _; exact units_lt2 hu (by decide)) rfl (r := r) ⟨_, (N13 _ (.tail _ (.head _))).1, rfl, _, rfl⟩ (by rw [hbl]; exact hr) (by rw [hbl, hpsl]; exact Nat.le_trans (show ws.length ≤ 100 from hlen) (by decide)) ?_ ?_
        · intro j v hj hv
          refine ltAt_right hbv hv fun x hx => ?_
          obtain ⟨p', hp', rfl⟩ := map_at hx
          exact hrc j p' hp'
        intro h14 tk14 t14 F14 N14
        clear F13 N13
        obtain ⟨x, hx⟩ : ∃ x, mo[r]? = some x := ⟨_, List.getElem?_eq_getElem (by omega)⟩
        obtain ⟨tx, htx⟩ := ints_of hmv hx
        refine item_litK (vs := mv) ⟨_, (N14 _ (.head _)).1, rfl, _, rfl⟩ (by omega) (by omega) (v := .int (x : Int) tx) (by simpa using htx) ?_
        k_steps
        rename Fr _ _ _ _ => F15
        rename News _ _ _ _ => N15
        rename_i tmx _ _
        refine append_K F15 N15 (.head hapart) ?_ (by rw [List.size_toArray, hmvl, sizeLine_eq]; omega)
        intro h16 F16 N16
        clear F15 N15
        rw [List.push_toArray, show (if (x : Int) + 1 > (y : Int) then (x : Int) + 1 else (y : Int)) = ((max y (x + 1) : Nat) : Int) by split <;> omega] at N16
        unfold Nxt
        refine wpAny_execs_nil ⟨_, _, _, _, rfl, F16, ?_, mo ++ [max y (x + 1)], mv ++ [.int ((max y (x + 1) : Nat) : Int) (if (x : Int) + 1 > (y : Int) then tk14 + 1 else ty)], nm + 1, rfl, ints_snoc hmv, by rw [List.length_append, hmol]; rfl, most_snoc hmost hmol hp hrc hri hx hy, rfl, rfl, trivial⟩
        intro q hq
        refine N16 q ?_
        revert q
        repeat (first | exact List.forall_mem_nil _ | refine List.forall_mem_cons.mpr ⟨by repeat (first | exact List.Mem.head _ | refine List.Mem.tail _ ?_ | refine List.mem_append_right _ ?_), ?_⟩ | refine List.forall_mem_append.mpr ⟨fun z hz => by repeat (first | exact hz | exact List.mem_append_left _ hz | refine List.Mem.tail _ ?_ | refine List.mem_append_right _ ?_), ?_⟩ | exact fun z hz => by repeat (first | exact hz | exact List.mem_append_left _ hz | refine List.Mem.tail _ ?_ | refine List.mem_append_right _ ?_))
      · rintro i m' nx ⟨mo, mv, nm, rfl, _⟩ p hp
        rcases List.mem_cons.mp hp with rfl | hp
        · exact Nat.ne_of_lt hM2
        · exact Nat.ne_of_lt (hlt2 p (.tail _ hp))
      · rintro m₁ nx h tk ⟨mo, mv, nm, rfl, hmv, hmol, hmost, P1⟩ F10 N10
        have F11 := pins F10 _ P1
        clear F10 F5 N6
        dsimp only
        refine stmt_any ?_
        iterate 6 (first | walk1 | (dsimp only; walk1))
        have hmvl : mv.length = rr.length + 1 := by rw [hmv.length, List.length_map, hmol]
        obtain ⟨y, hy⟩ : ∃ y, mo[rr.length]? = some y := ⟨_, List.getElem?_eq_getElem (by omega)⟩
        obtain ⟨ty, hty⟩ := ints_of hmv hy
        refine item_lastAt (vs := mv) (k := rr.length) ⟨_, (N10 _ (.head _)).1, rfl, _, rfl⟩ hmvl (by omega) hty ?_
        exact ⟨_, _, _, rfl, rfl, F11.keep, ty, ps, mo, y, rfl, hperm2, hlex, hmost, by rw [hmol, hpr.1], by rw [← hpr.1]; exact hy⟩
  · rintro v h' tk' K2 F2 N2 ⟨t, ps, mo, x, rfl, e1, e2, e3, e4, e5⟩
    exact k h' tk' t ps mo x F2 N2 e1 e2 e3 e4 e5
end Mine
end
section
open PySem PySem.W PyProof.Rows PySem.Calls LCg
set_option Elab.async false
set_option linter.unusedVariables false
set_option maxRecDepth 100000
namespace Mine
/-- apart from the cells of some, fewest, k -/
noncomputable def Ap3 (L a : Nat) : Prop := a ≠ L + 1 + 1 + 1 + 1 + 1 + 1 + 1 ∧ a ≠ L + 1 + 1 + 1 + 1 + 1 + 1 ∧ a ≠ L + 1 + 1 + 1
theorem PairsL.to_B {pl news : List (Addr × Obj)} {rr : List Value} {wl : List (Nat × Nat)} {hb h : Heap} {L : Addr} (hp : PairsL pl rr wl) (N : News hb L h news) (hs : ∀ p ∈ pl, p ∈ news) : PairsB h rr wl :=
  ⟨hp.1, fun j p hj => by obtain ⟨a, t1, t2, n, e, m⟩ := hp.2 j p hj; exact ⟨a, t1, t2, n, e, (N _ (hs _ m)).1⟩⟩
set_option maxHeartbeats 8000000 in
theorem rest_one {w : World} {mg mb : Str → Option Value} {s : Shared} {Q : Flow → Shared → Prop} {hb : Heap} {L aW aS : Addr} {rr sv : List Value} {n nS size : Nat} {wl : List (Nat × Nat)} {c1 c2 c5 : Obj} {pl : List (Addr × Obj)} {m : Str → Option Value} {cd : Value}
    (G : Gd w mg mb hb) (F : Fr hb L s.heap m)
    (N : News hb L s.heap ((aW, W.listOf (List.toArray rr) n) :: (aS, W.listOf sv.toArray nS) :: (L + 1 + 1 + 1 + 1 + 1 + 1 + 1, c1) :: (L + 1 + 1 + 1 + 1 + 1 + 1, c2) :: (L + 1 + 1 + 1, c5) :: pl))
    (P : Pins m [(Str.ofString "windows", .ref aW), (Str.ofString "shelf", .ref aS)])
    (hpr : PairsL pl rr wl) (hwl : wl.length ≤ 6) (hsz : sv.length = size) (hs6 : size ≤ 6) (hval : ∀ v ∈ wl, v.1 < v.2 ∧ v.2 ≤ size)
    (hap : ∀ p ∈ (aW, W.listOf (List.toArray rr) n) :: (aS, W.listOf sv.toArray nS) :: pl, Ap3 L p.1)
    (k : ∀ h' tk' m' aF aK aX fv kv xv nF nK nX f l fl, Fr hb L h' m' →
      News hb L h' ((aX, W.listOf (List.toArray xv) nX) :: (aF, W.listOf (List.toArray fv) nF) :: (aK, W.listOf (List.toArray kv) nK) :: (aW, W.listOf (List.toArray rr) n) :: (aS, W.listOf sv.toArray nS) :: (L + 1 + 1 + 1 + 1 + 1 + 1 + 1, c1) :: (L + 1 + 1 + 1 + 1 + 1 + 1, c2) :: (L + 1 + 1 + 1, c5) :: (pl ++ fl)) →
      IntsAre fv (zs f) → Front wl 0 f → IntsAre kv (zs l.reverse) → Back wl size l → ListsL fl xv (fits size wl (2 ^ size)) →
      (∀ p ∈ (aX, W.listOf (List.toArray xv) nX) :: (aF, W.listOf (List.toArray fv) nF) :: (aK, W.listOf (List.toArray kv) nK) :: (aW, W.listOf (List.toArray rr) n) :: (aS, W.listOf sv.toArray nS) :: (pl ++ fl), Ap3 L p.1) →
      Pins m' [(Str.ofString "front", .ref aF), (Str.ofString "back", .ref aK), (Str.ofString "fit", .ref aX), (Str.ofString "windows", .ref aW), (Str.ofString "shelf", .ref aS)] →
      wpAny (model Challenge.rw_ph0088_02.row.prog w) (callerA.deeper (lawE L cd)) (execs (lawB 10) (lawE L cd)) Q NoE { s with heap := h', toks := tk' }) :
    wpAny (model Challenge.rw_ph0088_02.row.prog w) (callerA.deeper (lawE L cd)) (execs (lawB 8) (lawE L cd)) Q NoE s := by
  have X := G.X
  have T := G.T
  revert X; k_fill; intro X
  have F1 := pins F _ P
  clear F
  have hv1 : ∀ v ∈ wl, v.1 < v.2 := fun v hv => (hval v hv).1
  change wpAny _ (PySem.Around.deeper _ (envOfC _ ⟨_, _, _, _, _⟩ _ _ _)) (execs (_ :: _) (envOfC _ ⟨_, _, _, _, _⟩ _ _ _)) _ _ _
  dsimp only at F1 ⊢
  refine stmt_any ?_
  k_steps
  refine front_any G F1 N (by show callerA.depth + 1 + 7 < recursionLimit; decide +kernel) (by show callerA.units + _ + 500 < cLine; decide +kernel) rfl ⟨_, (N _ (.head _)).1, rfl, _, rfl⟩ (hpr.to_B N fun p hp => .tail _ (.tail _ (.tail _ (.tail _ (.tail _ hp))))) (by omega) hv1 ?_
  intro h2 tk2 aF fv nF f F2 N2 hneF hfv hfr
  clear F1 N
  k_steps
  refine back_any G F2 N2 (by show callerA.depth + 1 + 7 < recursionLimit; decide +kernel) (by show callerA.units + _ + 500 < cLine; decide +kernel) rfl ⟨_, (N2 _ (.tail _ (.head _))).1, rfl, _, rfl⟩ (hpr.to_B N2 fun p hp => .tail _ (.tail _ (.tail _ (.tail _ (.tail _ (.tail _ hp)))))) (by omega) hv1 (B := size) (fun v hv => (hval v hv).2) ?_
  intro h3 tk3 aK kv nK l F3 N3 hneK hkv hbk
  clear F2 N2
  k_steps
  rename Fr _ _ _ _ => F4
  rename News _ _ _ _ => N4
  dsimp only at F4 N4 ⊢
  refine nxt_go (stmt_any ?_)
  k_steps
  have N5 : News hb L _ ((aF, W.listOf fv.toArray nF) :: (aK, W.listOf kv.toArray nK) :: (aW, W.listOf rr.toArray n) :: (aS, W.listOf sv.toArray nS) :: (L + 1 + 1 + 1 + 1 + 1 + 1 + 1, c1) :: (L + 1 + 1 + 1 + 1 + 1 + 1, c2) :: (L + 1 + 1 + 1, c5) :: pl) := fun p hp => N4 p (by
    revert p
    repeat (first | exact List.forall_mem_nil _ | refine List.forall_mem_cons.mpr ⟨by repeat (first | exact List.Mem.head _ | refine List.Mem.tail _ ?_ | refine List.mem_append_right _ ?_), ?_⟩ | refine List.forall_mem_append.mpr ⟨fun z hz => by repeat (first | exact hz | exact List.mem_append_left _ hz | refine List.Mem.tail _ ?_ | refine List.mem_append_right _ ?_), ?_⟩ | exact fun z hz => by repeat (first | exact hz | exact List.mem_append_left _ hz | refine List.Mem.tail _ ?_ | refine List.mem_append_right _ ?_)))
  clear N4
  refine kun_lenL (k := (size : Int)) (items := sv.toArray) ⟨_, (N5 _ (.tail _ (.tail _ (.tail _ (.head _))))).1, rfl, _, rfl⟩ (by rw [List.size_toArray, hsz]) (by omega) ?_
  k_steps
  refine fit_any G F4 N5 (by show callerA.depth + 1 + 7 < recursionLimit; decide +kernel) (by show callerA.units + _ + 500 < cLine; decide +kernel) rfl ⟨_, (N5 _ (.tail _ (.tail _ (.head _)))).1, rfl, _, rfl⟩ (hpr.to_B N5 fun p hp => .tail _ (.tail _ (.tail _ (.tail _ (.tail _ (.tail _ (.tail _ hp))))))) (by omega) (fun v hv => ⟨(hval v hv).1, Nat.le_trans (hval v hv).2 hs6⟩) hs6 ?_
  intro h6 tk6 aX xv nX fl F6 N6 hneX hflX hfits
  clear F4 N5
  have N7 : News hb L h6 ((aX, W.listOf xv.toArray nX) :: (aF, W.listOf fv.toArray nF) :: (aK, W.listOf kv.toArray nK) :: (aW, W.listOf rr.toArray n) :: (aS, W.listOf sv.toArray nS) :: (L + 1 + 1 + 1 + 1 + 1 + 1 + 1, c1) :: (L + 1 + 1 + 1 + 1 + 1 + 1, c2) :: (L + 1 + 1 + 1, c5) :: (pl ++ fl)) := fun p hp => N6 p (by
    revert p
    repeat (first | exact List.forall_mem_nil _ | refine List.forall_mem_cons.mpr ⟨by repeat (first | exact List.Mem.head _ | refine List.Mem.tail _ ?_ | refine List.mem_append_right _ ?_), ?_⟩ | refine List.forall_mem_append.mpr ⟨fun z hz => by repeat (first | exact hz | exact List.mem_append_left _ hz | refine List.Mem.tail _ ?_ | refine List.mem_append_right _ ?_), ?_⟩ | exact fun z hz => by repeat (first | exact hz | exact List.mem_append_left _ hz | refine List.Mem.tail _ ?_ | refine List.mem_append_right _ ?_)))
  clear N6
  k_steps
  rename Fr _ _ _ _ => F8
  rename News _ _ _ _ => N8
  refine nxt_go ?_
  dsimp only at F8 N8 ⊢
  refine k _ _ _ aF aK aX fv kv xv nF nK nX f l fl F8 N8 hfv hfr hkv hbk hfits ?_ ⟨rfl, rfl, rfl, rfl, rfl, trivial⟩
  intro p hp
  rcases List.mem_cons.mp hp with rfl | hp
  · exact ⟨(hneX (L + 1 + 1 + 1 + 1 + 1 + 1 + 1, c1) (by repeat (first | exact List.Mem.head _ | refine List.Mem.tail _ ?_))).symm, (hneX (L + 1 + 1 + 1 + 1 + 1 + 1, c2) (by repeat (first | exact List.Mem.head _ | refine List.Mem.tail _ ?_))).symm, (hneX (L + 1 + 1 + 1, c5) (by repeat (first | exact List.Mem.head _ | refine List.Mem.tail _ ?_))).symm⟩
  rcases List.mem_cons.mp hp with rfl | hp
  · exact ⟨(hneF (L + 1 + 1 + 1 + 1 + 1 + 1 + 1, c1) (by repeat (first | exact List.Mem.head _ | refine List.Mem.tail _ ?_))).symm, (hneF (L + 1 + 1 + 1 + 1 + 1 + 1, c2) (by repeat (first | exact List.Mem.head _ | refine List.Mem.tail _ ?_))).symm, (hneF (L + 1 + 1 + 1, c5) (by repeat (first | exact List.Mem.head _ | refine List.Mem.tail _ ?_))).symm⟩
  rcases List.mem_cons.mp hp with rfl | hp
  · exact ⟨(hneK (L + 1 + 1 + 1 + 1 + 1 + 1 + 1, c1) (by repeat (first | exact List.Mem.head _ | refine List.Mem.tail _ ?_))).symm, (hneK (L + 1 + 1 + 1 + 1 + 1 + 1, c2) (by repeat (first | exact List.Mem.head _ | refine List.Mem.tail _ ?_))).symm, (hneK (L + 1 + 1 + 1, c5) (by repeat (first | exact List.Mem.head _ | refine List.Mem.tail _ ?_))).symm⟩
  rcases List.mem_cons.mp hp with rfl | hp
  · exact hap _ (.head _)
  rcases List.mem_cons.mp hp with rfl | hp
  · exact hap _ (.tail _ (.head _))
  rcases List.mem_append.mp hp with hp | hp
  · exact hap _ (.tail _ (.tail _ hp))
  · exact ⟨(hflX p hp (L + 1 + 1 + 1 + 1 + 1 + 1 + 1, c1) (by repeat (first | exact List.Mem.head _ | refine List.Mem.tail _ ?_))).symm, (hflX p hp (L + 1 + 1 + 1 + 1 + 1 + 1, c2) (by repeat (first | exact List.Mem.head _ | refine List.Mem.tail _ ?_))).symm, (hflX p hp (L + 1 + 1 + 1, c5) (by repeat (first | exact List.Mem.head _ | refine List.Mem.tail _ ?_))).symm⟩
end Mine
end
section
open PySem PySem.W PyProof.Rows PySem.Calls LCg
set_option Elab.async false
set_option linter.unusedVariables false
set_option maxRecDepth 100000
namespace Mine
theorem ListsL.at {pl : List (Addr × Obj)} {rs : List Value} {ls : List (List Nat)} (h : ListsL pl rs ls) {j : Nat} {v : Value} (hv : rs[j]? = some v) : ∃ c a us n, v = .ref a ∧ ls[j]? = some c ∧ (a, W.listOf (List.toArray us) n) ∈ pl ∧ IntsAre us (zs c) := by
  have hlt := (List.getElem?_eq_some_iff.mp hv).1
  rw [h.1] at hlt
  obtain ⟨a, us, n, e1, e2, e3⟩ := h.2 j _ (List.getElem?_eq_getElem hlt)
  rw [hv] at e1
  exact ⟨_, a, us, n, Option.some.inj e1, List.getElem?_eq_getElem hlt, e2, e3⟩
theorem ld_builtC {M : Model} {A : PySem.Around} {E : Value → Shared → Prop} {s : Shared} {K : Frag} {h₀ : Heap} {L C : Addr} {m mg mb : Str → Option Value} {scope : Scope} {cl : List (Str × Addr)} {env : Env} {p : Program} {loose : List Str} {x : Str} {pos : Pos} {v : Value} {Q : Value → Shared → Prop}
    (F : Fr h₀ L s.heap m) (X : K.In h₀) (T : TopRead p loose mg mb h₀) (e : nsIn K mainGlobals x = some none) (hv : bootBuiltins x = some v) (hn : x ≠ "__name__") (h : Q v s) (hg : env.globals = mainGlobals := by rfl) (hb : env.builtins = builtinsNs := by rfl)
    (hk : (compEnvC scope cl C env).scope.kind = .function := by rfl) (hx : (compEnvC scope cl C env).kindOf x = some .globalImplicit := by rfl) (hd : (x == ("__debug__" : Str)) = false := by decide) :
    wpAny M A (eval (.Name x pos) (compEnvC scope cl C env)) Q E s :=
  Name_function_global hk hx (loadGlobal_builtin (env := compEnvC scope cl C env) (show s.heap.Ns env.globals mg from hg ▸ (T.keeps F.keep).g) (mg_none_of X T.g e) (show s.heap.Ns env.builtins mb from hb ▸ (T.keeps F.keep).b) ((T.builtins x hn).trans hv) h) hd
theorem mem_skip8 {α : Type} {a b c d e f g h x : α} {l : List α} (H : x ∈ l) : x ∈ a :: b :: c :: d :: e :: f :: g :: h :: l :=
  .tail _ (.tail _ (.tail _ (.tail _ (.tail _ (.tail _ (.tail _ (.tail _ H)))))))
theorem cell_36 (L : Nat) : L + 1 + 1 + 1 ≠ L + 1 + 1 + 1 + 1 + 1 + 1 := by omega
theorem fits_short {size i : Nat} {wl : List (Nat × Nat)} {c : List Nat} (h : c ∈ fits size wl i) : c.length ≤ size := by
  unfold fits at h
  obtain ⟨z, _, rfl⟩ := List.mem_map.mp h
  unfold places
  exact Nat.le_trans (List.length_filter_le _ _) (by rw [List.length_range]; exact Nat.le_refl _)
set_option maxHeartbeats 8000000 in
theorem rest_two {w : World} {mg mb : Str → Option Value} {s : Shared} {Q : Flow → Shared → Prop} {hb : Heap} {L aW aS aF aK aX : Addr} {rr sv fv kv xv : List Value} {n nS nF nK nX size : Nat} {wl : List (Nat × Nat)} {f l : List Nat} {c1 c2 c5 : Obj} {v2 : Option Value} {tl fl : List (Addr × Obj)} {m : Str → Option Value} {cd : Value}
    (G : Gd w mg mb hb) (F : Fr hb L s.heap m)
    (N : News hb L s.heap ((aX, W.listOf (List.toArray xv) nX) :: (aF, W.listOf (List.toArray fv) nF) :: (aK, W.listOf (List.toArray kv) nK) :: (aW, W.listOf (List.toArray rr) n) :: (aS, W.listOf sv.toArray nS) :: (L + 1 + 1 + 1 + 1 + 1 + 1 + 1, c1) :: (L + 1 + 1 + 1 + 1 + 1 + 1, c2) :: (L + 1 + 1 + 1, c5) :: tl))
    (hc2 : c2.data = .cell v2) (hfl : ∀ p ∈ fl, p ∈ tl) 
    (P : Pins m [(Str.ofString "front", .ref aF), (Str.ofString "back", .ref aK), (Str.ofString "fit", .ref aX), (Str.ofString "windows", .ref aW), (Str.ofString "shelf", .ref aS)])
    (hpr : PairsL tl rr wl) (hwl : wl.length ≤ 6) (hsz : sv.length = size) (hs6 : size ≤ 6) (hval : ∀ v ∈ wl, v.1 < v.2 ∧ v.2 ≤ size)
    (hfv : IntsAre fv (zs f)) (hfr : Front wl 0 f) (hkv : IntsAre kv (zs l.reverse)) (hbk : Back wl size l) (hfit : ListsL fl xv (fits size wl (2 ^ size)))
    (hap : ∀ p ∈ (aX, W.listOf (List.toArray xv) nX) :: (aF, W.listOf (List.toArray fv) nF) :: (aK, W.listOf (List.toArray kv) nK) :: (aW, W.listOf (List.toArray rr) n) :: (aS, W.listOf sv.toArray nS) :: tl, Ap3 L p.1)
    (k : ∀ h' tk' m' d2 tM, Fr hb L h' m' →
      News hb L h' ((aX, W.listOf (List.toArray xv) nX) :: (aF, W.listOf (List.toArray fv) nF) :: (aK, W.listOf (List.toArray kv) nK) :: (aW, W.listOf (List.toArray rr) n) :: (aS, W.listOf sv.toArray nS) :: (L + 1 + 1 + 1 + 1 + 1 + 1 + 1, c1) :: (L + 1 + 1 + 1 + 1 + 1 + 1, d2) :: (L + 1 + 1 + 1, c5) :: tl) →
      d2.data = .cell (some (.int ((f.length : Nat) : Int) tM)) →
      Pins m' [(Str.ofString "front", .ref aF), (Str.ofString "back", .ref aK), (Str.ofString "fit", .ref aX), (Str.ofString "windows", .ref aW), (Str.ofString "shelf", .ref aS)] →
      wpAny (model Challenge.rw_ph0088_02.row.prog w) (callerA.deeper (lawE L cd)) (execs (lawB 12) (lawE L cd)) Q NoE { s with heap := h', toks := tk' }) :
    wpAny (model Challenge.rw_ph0088_02.row.prog w) (callerA.deeper (lawE L cd)) (execs (lawB 10) (lawE L cd)) Q NoE s := by
  have X := G.X
  have T := G.T
  revert X; k_fill; intro X
  have F1 := pins F _ P
  clear F
  have hv1 : ∀ v ∈ wl, v.1 < v.2 := fun v hv => (hval v hv).1
  obtain ⟨e1, e2, e3, _⟩ := fewest_is hs6 hval hfr hbk
  have hf6 : ∀ c ∈ fits size wl (2 ^ size), c.length ≤ 6 := fun c hc => by
    exact Nat.le_trans (fits_short hc) hs6
  have hn64 : (fits size wl (2 ^ size)).length ≤ 64 := Nat.le_trans (fits_len _ _ _) (by
    have : 2 ^ size ≤ 2 ^ 6 := Nat.pow_le_pow_right (by decide) hs6
    omega)
  change wpAny _ (PySem.Around.deeper _ (envOfC _ ⟨_, _, _, _, _⟩ _ _ _)) (execs (_ :: _) (envOfC _ ⟨_, _, _, _, _⟩ _ _ _)) _ _ _
  dsimp only at F1 ⊢
  refine stmt_any ?_
  iterate 5 (first | walk1 | (dsimp only; walk1))
  refine comp_E F1 (by with_unfolding_all rfl) (by decide) (by rfl) (by decide) ?_
  iterate 1 (first | walk1 | (dsimp only; walk1))
  have hxl : xv.length = (fits size wl (2 ^ size)).length := hfit.1
  refine CSrc.name (n := xv.length) (P := fun j v => xv[j]? = some v) (S := fun nx => LCg.SrcAt hb aX xv.toArray nx) (J := fun j ys nx => nx = (aX, W.listOf (List.toArray xv) nX) :: (aF, W.listOf (List.toArray fv) nF) :: (aK, W.listOf (List.toArray kv) nK) :: (aW, W.listOf (List.toArray rr) n) :: (aS, W.listOf sv.toArray nS) :: (L + 1 + 1 + 1 + 1 + 1 + 1 + 1, c1) :: (L + 1 + 1 + 1 + 1 + 1 + 1, c2) :: (L + 1 + 1 + 1, c5) :: tl ∧ IntsAre ys (zs (((fits size wl (2 ^ size)).take j).map (·.length)))) (Src.list rfl ⟨_, (N _ (.head _)).1, rfl, _, rfl⟩) (by rw [sizeLine_eq]; omega) F1 N ?_ ⟨rfl, .nil⟩ ?_ ?_
  · rintro j ys nx ⟨rfl, _⟩; exact .inr ⟨_, .head _, rfl, _, rfl⟩
  · intro g
    refine CTurn.none ?_
    rintro j v ys nx I oI C oC D' m₂ h9 tk9 E' hj hP ⟨rfl, hys⟩ hm1 hC F9 N9 off ne
    obtain ⟨c, a, us, na, rfl, hcj, ham, hus⟩ := hfit.at hP
    clear F1 N
    k_steps
    refine ld_builtC (K := hd.heap_39 w.params) F9 X T (by k_is) boot_len (by decide) ?_
    k_steps
    have hc6 : c.length ≤ 6 := hf6 c (List.mem_of_getElem? hcj)
    have hul : us.length = c.length := by rw [hus.length, List.length_map]
    have hAm := N9 _ (.tail _ (.tail _ (.tail _ (mem_skip8 (hfl _ ham)))))
    refine kun_lenL (k := (c.length : Int)) (items := us.toArray) ⟨_, hAm.1, rfl, _, rfl⟩ (by rw [List.size_toArray, hul]) (by omega) ?_
    refine ⟨h9, _, _, rfl, F9, N9, off, trivial, rfl, ?_⟩
    rw [List.take_add_one, hcj, Option.toList_some, List.map_append]
    exact ints_snoc hys
  rintro g ys nx ⟨rfl, hys⟩
  rw [hxl, List.take_length] at hys
  intro aE h3 tk3 F3 N3 o3
  clear F1 N o3
  iterate 1 (first | walk1 | (dsimp only; walk1))
  refine min_list_N rfl F3 N3 ⟨_, (N3 _ (.head _)).1, rfl, _, rfl⟩ hys ?_ ?_
  · rw [List.length_map, List.length_map]; exact List.length_pos_of_mem e2
  intro h4 M tM tk4 F4 N4 hM1 hM2
  clear F3 N3
  have hM : M = (f.length : Int) := by
    obtain ⟨y, hy, rfl⟩ := List.mem_map.mp hM1
    obtain ⟨c, hc, rfl⟩ := List.mem_map.mp hy
    have a1 := e3 c hc
    have a2 := hM2 (f.length : Int) (List.mem_map.mpr ⟨f.length, List.mem_map.mpr ⟨f, e2, rfl⟩, rfl⟩)
    omega
  subst hM
  have N5 : News hb L h4 ((aX, W.listOf (List.toArray xv) nX) :: (aF, W.listOf (List.toArray fv) nF) :: (aK, W.listOf (List.toArray kv) nK) :: (aW, W.listOf (List.toArray rr) n) :: (aS, W.listOf sv.toArray nS) :: (L + 1 + 1 + 1 + 1 + 1 + 1 + 1, c1) :: (L + 1 + 1 + 1 + 1 + 1 + 1, c2) :: (L + 1 + 1 + 1, c5) :: tl) := fun p hp => N4 p (.tail _ hp)
  clear N4
  refine stCN (own := (aX, W.listOf (List.toArray xv) nX) :: (aF, W.listOf (List.toArray fv) nF) :: (aK, W.listOf (List.toArray kv) nK) :: (aW, W.listOf (List.toArray rr) n) :: (aS, W.listOf sv.toArray nS) :: [(L + 1 + 1 + 1 + 1 + 1 + 1 + 1, c1)]) (rest := (L + 1 + 1 + 1, c5) :: tl) F4 N5 (by rfl) hc2 ?_ ?_ ?_
  · intro p hp
    rcases List.mem_cons.mp hp with rfl | hp
    · exact (hap _ (.head _)).2.1
    rcases List.mem_cons.mp hp with rfl | hp
    · exact (hap _ (.tail _ (.head _))).2.1
    rcases List.mem_cons.mp hp with rfl | hp
    · exact (hap _ (.tail _ (.tail _ (.head _)))).2.1
    rcases List.mem_cons.mp hp with rfl | hp
    · exact (hap _ (.tail _ (.tail _ (.tail _ (.head _))))).2.1
    rcases List.mem_cons.mp hp with rfl | hp
    · exact (hap _ (.tail _ (.tail _ (.tail _ (.tail _ (.head _)))))).2.1
    · rw [List.mem_singleton.mp hp]; exact Nat.succ_ne_self _
  · intro p hp
    rcases List.mem_cons.mp hp with rfl | hp
    · exact cell_36 _
    · exact (hap _ (.tail _ (.tail _ (.tail _ (.tail _ (.tail _ hp)))))).2.1
  intro h6 d2 F6 N6 hd2
  clear F4 N5
  change News hb L h6 ((aX, W.listOf (List.toArray xv) nX) :: (aF, W.listOf (List.toArray fv) nF) :: (aK, W.listOf (List.toArray kv) nK) :: (aW, W.listOf (List.toArray rr) n) :: (aS, W.listOf sv.toArray nS) :: (L + 1 + 1 + 1 + 1 + 1 + 1 + 1, c1) :: (L + 1 + 1 + 1 + 1 + 1 + 1, d2) :: (L + 1 + 1 + 1, c5) :: tl) at N6
  dsimp only at F6 ⊢
  refine nxt_go (stmt_any (if_any ?_))
  have hff : f.length ≤ 6 := hf6 f e2
  have hfl2 : fv.length = f.length := by rw [hfv.length, List.length_map]
  have hkl2 : kv.length = f.length := by rw [hkv.length, List.length_map, List.length_reverse, e1]
  k_steps
  · rename_i hcc
    exact absurd (by simpa [zs] using hfl2) hcc
  refine kun_lenL (k := (f.length : Int)) (items := kv.toArray) ⟨_, (N6 _ (.tail _ (.tail _ (.head _)))).1, rfl, _, rfl⟩ (by rw [List.size_toArray, hkl2]) (by omega) ?_
  k_steps
  · rename_i hcc
    exact absurd rfl hcc
  refine apart_any G F6 N6 (by show callerA.depth + 1 + 7 < recursionLimit; decide +kernel) (by show callerA.units + _ + 500 < cLine; decide +kernel) rfl ⟨_, (N6 _ (.tail _ (.tail _ (.tail _ (.head _))))).1, rfl, _, rfl⟩ (hpr.to_B N6 fun p hp => mem_skip8 hp) (by omega) hv1 ?_
  intro h7 tk7 t7 ps mo x F7 N7 hperm hlex hmost hmol hx
  have hxf : x = f.length := apart_is hv1 hfr hperm hlex hmost hmol hx
  subst hxf
  clear hperm hlex hmost hmol hx F6 N6
  k_steps
  · rename_i hcc
    exact absurd rfl hcc
  rename Fr _ _ _ _ => F8
  rename News _ _ _ _ => N8
  dsimp only at F8 N8 ⊢
  unfold Nxt
  refine wpAny_execs_nil ?_
  exact k _ _ _ d2 tM F8 N8 hd2 ⟨rfl, rfl, rfl, rfl, rfl, trivial⟩
end Mine
end
section
open PySem PySem.W PyProof.Rows PySem.Calls LCg
set_option Elab.async false
set_option linter.unusedVariables false
set_option maxRecDepth 100000
namespace Mine
theorem mem_skip7 {α : Type} {a b c d e f g x : α} {l : List α} (H : x ∈ l) : x ∈ a :: b :: c :: d :: e :: f :: g :: l :=
  .tail _ (.tail _ (.tail _ (.tail _ (.tail _ (.tail _ (.tail _ H))))))
/-- the k-th places of the fewest sets -/
noncomputable def kths (F : List (List Nat)) (n k : Nat) : List Nat := (F.filter fun c => decide (c.length = n)).map fun c => c.getD k 0
theorem cell_37 (L : Nat) : L + 1 + 1 + 1 ≠ L + 1 + 1 + 1 + 1 + 1 + 1 + 1 := by omega
theorem kths_next {F : List (List Nat)} {j n k : Nat} {c : List Nat} (h : F[j]? = some c) : kths (F.take (j + 1)) n k = kths (F.take j) n k ++ (if c.length = n then [c.getD k 0] else []) := by
  unfold kths
  rw [List.take_add_one, h, Option.toList_some, List.filter_append, List.map_append]
  by_cases e : c.length = n
  · rw [if_pos e, List.filter_cons, if_pos (by exact decide_eq_true e)]; rfl
  · rw [if_neg e, List.filter_cons, if_neg (by simpa using e)]; rfl
set_option maxHeartbeats 8000000 in
theorem last_one {w : World} {mg mb : Str → Option Value} {s : Shared} {Q : Flow → Shared → Prop} {hb : Heap} {L aS aF aK aX : Addr} {sv fv kv xv : List Value} {nS nF nK nX size i : Nat} {wl : List (Nat × Nat)} {f l : List Nat} {d1 d2 d5 : Obj} {v1 : Option Value} {tM tk0 : Tok} {tl fl : List (Addr × Obj)} {m : Str → Option Value} {cd : Value}
    (G : Gd w mg mb hb) (F : Fr hb L s.heap m)
    (N : News hb L s.heap ((aX, W.listOf (List.toArray xv) nX) :: (aF, W.listOf (List.toArray fv) nF) :: (aK, W.listOf (List.toArray kv) nK) :: (aS, W.listOf sv.toArray nS) :: (L + 1 + 1 + 1 + 1 + 1 + 1 + 1, d1) :: (L + 1 + 1 + 1 + 1 + 1 + 1, d2) :: (L + 1 + 1 + 1, d5) :: tl))
    (hd1 : d1.data = .cell v1) (hd2 : d2.data = .cell (some (.int ((f.length : Nat) : Int) tM))) (hd5 : d5.data = .cell (some (.int (i : Int) tk0))) (hfl : ∀ p ∈ fl, p ∈ tl)
    (P : Pins m [(Str.ofString "front", .ref aF), (Str.ofString "back", .ref aK), (Str.ofString "fit", .ref aX), (Str.ofString "shelf", .ref aS)])
    (hsz : sv.length = size) (hs6 : size ≤ 6) (hval : ∀ v ∈ wl, v.1 < v.2 ∧ v.2 ≤ size)
    (hfv : IntsAre fv (zs f)) (hfr : Front wl 0 f) (hkv : IntsAre kv (zs l.reverse)) (hbk : Back wl size l) (hfit : ListsL fl xv (fits size wl (2 ^ size))) (hi : i < f.length)
    (hap : ∀ p ∈ (aX, W.listOf (List.toArray xv) nX) :: (aF, W.listOf (List.toArray fv) nF) :: (aK, W.listOf (List.toArray kv) nK) :: (aS, W.listOf sv.toArray nS) :: tl, p.1 ≠ L + 1 + 1 + 1 + 1 + 1 + 1 + 1)
    (k : ∀ h' tk' m' aE ys d1', Fr hb L h' m' → News hb L h' ((aE, LCg.lst ys) :: (aX, W.listOf (List.toArray xv) nX) :: (aF, W.listOf (List.toArray fv) nF) :: (aK, W.listOf (List.toArray kv) nK) :: (aS, W.listOf sv.toArray nS) :: (L + 1 + 1 + 1 + 1 + 1 + 1 + 1, d1') :: (L + 1 + 1 + 1 + 1 + 1 + 1, d2) :: (L + 1 + 1 + 1, d5) :: tl) →
      d1'.data = .cell (some (.ref aE)) → IntsAre ys (zs (kths (fits size wl (2 ^ size)) f.length i)) → Pins m' [(Str.ofString "front", .ref aF), (Str.ofString "back", .ref aK), (Str.ofString "fit", .ref aX), (Str.ofString "shelf", .ref aS)] →
      wpAny (model Challenge.rw_ph0088_02.row.prog w) (callerA.deeper (lawE L cd)) (execs (lastB 1) (lawE L cd)) Q NoE { s with heap := h', toks := tk' }) :
    wpAny (model Challenge.rw_ph0088_02.row.prog w) (callerA.deeper (lawE L cd)) (execs (lastB 0) (lawE L cd)) Q NoE s := by
  have X := G.X
  have T := G.T
  revert X; k_fill; intro X
  have F1 := pins F _ P
  clear F
  obtain ⟨e1, e2, e3, e4⟩ := fewest_is hs6 hval hfr hbk
  have hf6 : ∀ c ∈ fits size wl (2 ^ size), c.length ≤ 6 := fun c hc => Nat.le_trans (fits_short hc) hs6
  have hn64 : (fits size wl (2 ^ size)).length ≤ 64 := Nat.le_trans (fits_len _ _ _) (by
    have : 2 ^ size ≤ 2 ^ 6 := Nat.pow_le_pow_right (by decide) hs6
    omega)
  change wpAny _ (PySem.Around.deeper _ (envOfC _ ⟨_, _, _, _, _⟩ _ _ _)) (execs (_ :: _) (envOfC _ ⟨_, _, _, _, _⟩ _ _ _)) _ _ _
  dsimp only at F1 ⊢
  refine stmt_any ?_
  iterate 1 (first | walk1 | (dsimp only; walk1))
  refine comp_E F1 (by with_unfolding_all rfl) (by decide) (by rfl) (by decide) ?_
  iterate 1 (first | walk1 | (dsimp only; walk1))
  have hxl : xv.length = (fits size wl (2 ^ size)).length := hfit.1
  refine CSrc.name (n := xv.length) (P := fun j v => xv[j]? = some v) (S := fun nx => LCg.SrcAt hb aX xv.toArray nx) (J := fun j ys nx => nx = (aX, W.listOf (List.toArray xv) nX) :: (aF, W.listOf (List.toArray fv) nF) :: (aK, W.listOf (List.toArray kv) nK) :: (aS, W.listOf sv.toArray nS) :: (L + 1 + 1 + 1 + 1 + 1 + 1 + 1, d1) :: (L + 1 + 1 + 1 + 1 + 1 + 1, d2) :: (L + 1 + 1 + 1, d5) :: tl ∧ IntsAre ys (zs (kths ((fits size wl (2 ^ size)).take j) f.length i))) (Src.list rfl ⟨_, (N _ (.head _)).1, rfl, _, rfl⟩) (by rw [sizeLine_eq]; omega) F1 N ?_ ⟨rfl, .nil⟩ ?_ ?_
  · rintro j ys nx ⟨rfl, _⟩; exact .inr ⟨_, .head _, rfl, _, rfl⟩
  · intro g
    refine CTurn.one ?_
    rintro j v ys nx I oI C oC D' m₂ h9 tk9 E' hj hP ⟨rfl, hys⟩ hm1 hC F9 N9 off ne
    obtain ⟨c, a, us, na, rfl, hcj, ham, hus⟩ := hfit.at hP
    clear F1 N
    k_steps
    refine ld_builtC (K := hd.heap_39 w.params) F9 X T (by k_is) boot_len (by decide) ?_
    k_steps
    have hc6 : c.length ≤ 6 := hf6 c (List.mem_of_getElem? hcj)
    have hul : us.length = c.length := by rw [hus.length, List.length_map]
    have hAm := N9 _ (.tail _ (.tail _ (.tail _ (mem_skip7 (hfl _ ham)))))
    refine kun_lenL (k := (c.length : Int)) (items := us.toArray) ⟨_, hAm.1, rfl, _, rfl⟩ (by rw [List.size_toArray, hul]) (by omega) ?_
    k_steps
    · rename_i hz
      obtain ⟨v, hv⟩ : ∃ v, us[i]? = some v := ⟨_, List.getElem?_eq_getElem (by omega)⟩
      obtain ⟨y, ty, rfl, hy⟩ := hus.at i v hv
      obtain ⟨q, hq, rfl⟩ := map_at hy
      refine item_listL ⟨_, hAm.1, rfl, _, rfl⟩ (by omega) (by omega) (by rw [Int.toNat_natCast]; exact hv) ?_
      refine ⟨h9, _, _, rfl, F9, N9, off, trivial, rfl, ?_⟩
      rw [kths_next hcj, if_pos (by omega), List.getD_eq_getElem?_getD, hq]
      exact ints_snoc hys
    · rename_i hz
      refine ⟨h9, _, _, rfl, F9, N9, off, trivial, rfl, ?_⟩
      rw [kths_next hcj, if_neg (by omega), List.append_nil]
      exact hys
  rintro g ys nx ⟨rfl, hys⟩
  rw [hxl, List.take_length] at hys
  intro aE h3 tk3 F3 N3 o3
  clear F1 N
  have hE7 := off1_mem o3 (L + 1 + 1 + 1 + 1 + 1 + 1 + 1, d1) (.tail _ (.tail _ (.tail _ (.tail _ (.head _)))))
  clear o3
  refine stCN (own := (aE, LCg.lst ys) :: (aX, W.listOf (List.toArray xv) nX) :: (aF, W.listOf (List.toArray fv) nF) :: (aK, W.listOf (List.toArray kv) nK) :: [(aS, W.listOf sv.toArray nS)]) (rest := (L + 1 + 1 + 1 + 1 + 1 + 1, d2) :: (L + 1 + 1 + 1, d5) :: tl) F3 N3 (by rfl) hd1 ?_ ?_ ?_
  · intro p hp
    rcases List.mem_cons.mp hp with rfl | hp
    · exact fun e => hE7 e.symm
    rcases List.mem_cons.mp hp with rfl | hp
    · exact hap _ (.head _)
    rcases List.mem_cons.mp hp with rfl | hp
    · exact hap _ (.tail _ (.head _))
    rcases List.mem_cons.mp hp with rfl | hp
    · exact hap _ (.tail _ (.tail _ (.head _)))
    · rw [List.mem_singleton.mp hp]; exact hap _ (.tail _ (.tail _ (.tail _ (.head _))))
  · intro p hp
    rcases List.mem_cons.mp hp with rfl | hp
    · exact (Nat.succ_ne_self _).symm
    rcases List.mem_cons.mp hp with rfl | hp
    · exact cell_37 _
    · exact hap _ (.tail _ (.tail _ (.tail _ (.tail _ hp))))
  intro h4 d1' F4 N4 hd1'
  clear F3 N3
  change News hb L h4 ((aE, LCg.lst ys) :: (aX, W.listOf (List.toArray xv) nX) :: (aF, W.listOf (List.toArray fv) nF) :: (aK, W.listOf (List.toArray kv) nK) :: (aS, W.listOf sv.toArray nS) :: (L + 1 + 1 + 1 + 1 + 1 + 1 + 1, d1') :: (L + 1 + 1 + 1 + 1 + 1 + 1, d2) :: (L + 1 + 1 + 1, d5) :: tl) at N4
  dsimp only at F4 ⊢
  exact k _ _ _ aE ys d1' F4 N4 hd1' hys ⟨rfl, rfl, rfl, rfl, trivial⟩
end Mine
end
section
open PySem PySem.W PyProof.Rows PySem.Calls LCg
set_option Elab.async false
set_option linter.unusedVariables false
set_option maxRecDepth 100000
namespace Mine
theorem mem_zs {q : Nat} {ks : List Nat} : (q : Int) ∈ zs ks ↔ q ∈ ks := by
  constructor
  · intro h
    obtain ⟨z, hz, e⟩ := List.mem_map.mp h
    obtain rfl : z = q := by omega
    exact hz
  · exact fun h => List.mem_map.mpr ⟨q, h, rfl⟩
theorem range_eq {size x y : Nat} {ks : List Nat} (hxy : x ≤ y) (hys : y < size) (hks : ∀ q, q < size → ((x ≤ q ∧ q ≤ y) ↔ q ∈ ks)) : zs ((List.range size).filter fun q => decide (q ∈ ks)) = rangeKs (x : Int) (y + 1 - x) := by
  have e : (List.range size).filter (fun q => decide (q ∈ ks)) = (List.range (y + 1 - x)).map (fun z => x + z) := by
    refine inc_ext (List.pairwise_lt_range.filter _) (List.pairwise_map.mpr (List.pairwise_lt_range.imp fun h => by omega)) fun q => ?_
    rw [List.mem_filter, List.mem_range, decide_eq_true_iff, List.mem_map]
    constructor
    · rintro ⟨h1, h2⟩
      obtain ⟨a, b⟩ := (hks q h1).mpr h2
      exact ⟨q - x, List.mem_range.mpr (by omega), by omega⟩
    · rintro ⟨z, hz, rfl⟩
      have := List.mem_range.mp hz
      exact ⟨by omega, (hks _ (by omega)).mp ⟨by omega, by omega⟩⟩
  rw [e]
  unfold rangeKs zs
  rw [List.map_map]
  exact List.map_congr_left fun z _ => by simp
set_option maxHeartbeats 8000000 in
theorem last_two {w : World} {mg mb : Str → Option Value} {s : Shared} {Q : Flow → Shared → Prop} {hb : Heap} {L aS aF aK aE aX : Addr} {sv fv kv ev : List Value} {nS nF nK size i x y : Nat} {f l ks : List Nat} {d1 d5 : Obj} {tk0 : Tok} {tl : List (Addr × Obj)} {m : Str → Option Value} {cd : Value}
    (G : Gd w mg mb hb) (F : Fr hb L s.heap m)
    (N : News hb L s.heap ((aE, LCg.lst ev) :: (aF, W.listOf (List.toArray fv) nF) :: (aK, W.listOf (List.toArray kv) nK) :: (aS, W.listOf sv.toArray nS) :: (L + 1 + 1 + 1 + 1 + 1 + 1 + 1, d1) :: (L + 1 + 1 + 1, d5) :: tl))
    (hd1 : d1.data = .cell (some (.ref aE))) (hd5 : d5.data = .cell (some (.int (i : Int) tk0)))
    (P : Pins m [(Str.ofString "front", .ref aF), (Str.ofString "back", .ref aK), (Str.ofString "fit", .ref aX), (Str.ofString "shelf", .ref aS)])
    (hsz : sv.length = size) (hs6 : size ≤ 6) (hev : IntsAre ev (zs ks))
    (hfv : IntsAre fv (zs f)) (hkv : IntsAre kv (zs l)) (hf6 : f.length ≤ 6) (hx : l[i]? = some x) (hy : f[i]? = some y) (hy6 : y ≤ 6) (hxy : x ≤ y)
    (hks : ∀ q, q < size → ((x ≤ q ∧ q ≤ y) ↔ q ∈ ks)) (hys : y < size)
    (k : ∀ h' tk' m', Fr hb L h' m' → News hb L h' ((aE, LCg.lst ev) :: (aF, W.listOf (List.toArray fv) nF) :: (aK, W.listOf (List.toArray kv) nK) :: (aS, W.listOf sv.toArray nS) :: (L + 1 + 1 + 1 + 1 + 1 + 1 + 1, d1) :: (L + 1 + 1 + 1, d5) :: tl) → Pins m' [(Str.ofString "front", .ref aF), (Str.ofString "back", .ref aK), (Str.ofString "fit", .ref aX), (Str.ofString "shelf", .ref aS)] → Q .next { s with heap := h', toks := tk' }) :
    wpAny (model Challenge.rw_ph0088_02.row.prog w) (callerA.deeper (lawE L cd)) (execs (lastB 1) (lawE L cd)) Q NoE s := by
  have X := G.X
  have T := G.T
  revert X; k_fill; intro X
  have F1 := pins F _ P
  clear F
  change wpAny _ (PySem.Around.deeper _ (envOfC _ ⟨_, _, _, _, _⟩ _ _ _)) (execs (_ :: _) (envOfC _ ⟨_, _, _, _, _⟩ _ _ _)) _ _ _
  dsimp only at F1 ⊢
  refine stmt_any (if_any ?_)
  iterate 1 (first | walk1 | (dsimp only; walk1))
  refine comp_E F1 (by with_unfolding_all rfl) (by decide) (by rfl) (by decide) ?_
  k_steps
  refine kun_lenL (k := (size : Int)) (items := sv.toArray) ⟨_, (N _ (.tail _ (.tail _ (.tail _ (.head _))))).1, rfl, _, rfl⟩ (by rw [List.size_toArray, hsz]) (by omega) ?_
  k_steps
  rename_i hrg F2 N2 hkp
  clear hkp
  dsimp only at hrg F2 N2 ⊢
  refine CSrc.name (n := size) (P := fun j v => ∃ t, v = .int (j : Int) t) (S := fun _ => True) (J := fun j ys' nx => nx = (aE, LCg.lst ev) :: (aF, W.listOf (List.toArray fv) nF) :: (aK, W.listOf (List.toArray kv) nK) :: (aS, W.listOf sv.toArray nS) :: (L + 1 + 1 + 1 + 1 + 1 + 1 + 1, d1) :: (L + 1 + 1 + 1, d5) :: tl ∧ IntsAre ys' (zs ((List.range j).filter fun q => decide (q ∈ ks)))) (Src.range rfl hrg rfl (by omega)) (by rw [sizeLine_eq]; omega) F2 N2 (fun _ _ _ _ => trivial) ⟨rfl, .nil⟩ ?_ ?_
  · intro g
    refine CTurn.one ?_
    rintro j v ys2 nx I oI C oC D' m₂ h9 tk9 E' hj ⟨t9, rfl⟩ ⟨rfl, hys2⟩ hm1 hC F9 N9 off ne
    clear F2 N2
    iterate 3 (first | walk1 | (dsimp only; walk1))
    have hAm := N9 (aE, LCg.lst ev) (.tail _ (.tail _ (.tail _ (.head _))))
    refine in_ints (ns := zs ks) ⟨_, hAm.1, rfl, _, rfl⟩ hev ?_
    k_steps
    · rename_i hz
      have hjk : decide (j ∈ ks) = true := decide_eq_true (mem_zs.mp hz)
      refine ⟨h9, _, _, rfl, F9, N9, off, trivial, rfl, ?_⟩
      rw [List.range_succ, List.filter_append, List.filter_cons, if_pos hjk, List.filter_nil]
      exact ints_snoc hys2
    · rename_i hz
      have hjk : decide (j ∈ ks) = false := decide_eq_false fun h => hz (mem_zs.mpr h)
      refine ⟨h9, _, _, rfl, F9, N9, off, trivial, rfl, ?_⟩
      rw [List.range_succ, List.filter_append, List.filter_cons, if_neg (by rw [hjk]; exact Bool.false_ne_true), List.filter_nil, List.append_nil]
      exact hys2
  rintro g rv nx ⟨rfl, hrv⟩
  intro aR h3 tk3 F3 N3 o3
  clear F2 N2 o3
  k_steps
  obtain ⟨v, hv⟩ : ∃ v, kv[i]? = some v := ⟨_, List.getElem?_eq_getElem (by rw [hkv.length, List.length_map]; exact (List.getElem?_eq_some_iff.mp hx).1)⟩
  obtain ⟨x0, tx, rfl, hx0⟩ := hkv.at i v hv
  obtain ⟨x1, hx1, rfl⟩ := map_at hx0
  obtain rfl : x = x1 := Option.some.inj (hx.symm.trans hx1)
  have hi6 : i < f.length := (List.getElem?_eq_some_iff.mp hy).1
  refine item_listL ⟨_, (N3 (aK, W.listOf kv.toArray nK) (.tail _ (.tail _ (.tail _ (.head _))))).1, rfl, _, rfl⟩ (by omega) (by omega) (by rw [Int.toNat_natCast]; exact hv) ?_
  k_steps
  rename_i hrg2 F4 N4 hkp2
  clear hkp2
  have hyg : (zs f).getD (i : Int).toNat 0 = (y : Int) := by
    rw [Int.toNat_natCast, List.getD_eq_getElem?_getD, List.getElem?_map, hy]; rfl
  rw [hyg] at hrg2
  dsimp only at hrg2 F4 N4 ⊢
  refine kll_range (n := y + 1 - x) rfl F4 N4 hrg2 (small_one (by omega) (by omega) (by omega) (by omega)) (by rw [rangeSize_nat]; omega) (by omega) ?_
  intro aZ zv nZ h5 tk5 F5 N5 lZ hzv
  clear F4 N4 hrg2
  rw [← range_eq hxy hys hks] at hzv
  k_steps
  rename Fr _ _ _ _ => F6
  rename News _ _ _ _ => N6
  unfold Nxt
  refine wpAny_execs_nil ?_
  refine wpAny_execs_nil (k _ _ _ F6 (fun p hp => N6 p (.tail _ (.tail _ hp))) ⟨rfl, rfl, rfl, rfl, trivial⟩)
end Mine
end
section
open PySem PySem.W PyProof.Rows PySem.Calls LCg
set_option Elab.async false
set_option linter.unusedVariables false
set_option maxRecDepth 100000
namespace Mine
noncomputable abbrev ledK (aX aF aK aS L : Addr) (xv fv kv sv : List Value) (nX nF nK nS : Nat) (d1 d2 d5 : Obj) (tl : List (Addr × Obj)) : List (Addr × Obj) :=
  (aX, W.listOf xv.toArray nX) :: (aF, W.listOf fv.toArray nF) :: (aK, W.listOf kv.toArray nK) :: (aS, W.listOf sv.toArray nS) :: (L + 1 + 1 + 1 + 1 + 1 + 1 + 1, d1) :: (L + 1 + 1 + 1 + 1 + 1 + 1, d2) :: (L + 1 + 1 + 1, d5) :: tl
noncomputable def JK (aX aF aK aS L : Addr) (xv fv kv sv : List Value) (nX nF nK nS : Nat) (d2 : Obj) (tl : List (Addr × Obj)) (i : Nat) (m' : Str → Option Value) (nx : List (Addr × Obj)) : Prop :=
  ∃ d1 d5 v1 v5, nx = ledK aX aF aK aS L xv fv kv sv nX nF nK nS d1 d2 d5 tl ∧ d1.data = .cell v1 ∧ d5.data = .cell v5 ∧ Pins m' [(Str.ofString "front", .ref aF), (Str.ofString "back", .ref aK), (Str.ofString "fit", .ref aX), (Str.ofString "shelf", .ref aS)]
theorem ap3_lt {L a : Nat} (h : L + 1 + 1 + 1 + 1 + 1 + 1 + 1 < a) : Ap3 L a := by unfold Ap3; omega
set_option maxHeartbeats 8000000 in
theorem rest_three {w : World} {mg mb : Str → Option Value} {s : Shared} {Q : Flow → Shared → Prop} {hb : Heap} {L aS aF aK aX : Addr} {sv fv kv xv : List Value} {nS nF nK nX size : Nat} {wl : List (Nat × Nat)} {f l : List Nat} {d1 d2 d5 : Obj} {v1 v5 : Option Value} {tM : Tok} {tl fl : List (Addr × Obj)} {m : Str → Option Value} {cd : Value}
    (G : Gd w mg mb hb) (F : Fr hb L s.heap m) (N : News hb L s.heap (ledK aX aF aK aS L xv fv kv sv nX nF nK nS d1 d2 d5 tl))
    (hd1 : d1.data = .cell v1) (hd2 : d2.data = .cell (some (.int ((f.length : Nat) : Int) tM))) (hd5 : d5.data = .cell v5) (hfl : ∀ p ∈ fl, p ∈ tl)
    (P : Pins m [(Str.ofString "front", .ref aF), (Str.ofString "back", .ref aK), (Str.ofString "fit", .ref aX), (Str.ofString "shelf", .ref aS)])
    (hsz : sv.length = size) (hs6 : size ≤ 6) (hval : ∀ v ∈ wl, v.1 < v.2 ∧ v.2 ≤ size)
    (hfv : IntsAre fv (zs f)) (hfr : Front wl 0 f) (hkv : IntsAre kv (zs l.reverse)) (hbk : Back wl size l) (hfit : ListsL fl xv (fits size wl (2 ^ size)))
    (hap : ∀ p ∈ (aX, W.listOf (List.toArray xv) nX) :: (aF, W.listOf (List.toArray fv) nF) :: (aK, W.listOf (List.toArray kv) nK) :: (aS, W.listOf sv.toArray nS) :: tl, Ap3 L p.1)
    (k : ∀ h' tk', (∀ b o, hb.get? b = some o → h'.get? b = some o) → Q (.ret (.bool true)) { s with heap := h', toks := tk' }) :
    wpAny (model Challenge.rw_ph0088_02.row.prog w) (callerA.deeper (lawE L cd)) (execs (lawB 12) (lawE L cd)) Q NoE s := by
  have X := G.X
  have T := G.T
  revert X; k_fill; intro X
  have F1 := pins F _ P
  clear F
  obtain ⟨e1, e2, e3, e4⟩ := fewest_is hs6 hval hfr hbk
  have hff : f.length ≤ 6 := Nat.le_trans (fits_short e2) hs6
  change wpAny _ (PySem.Around.deeper _ (envOfC _ ⟨_, _, _, _, _⟩ _ _ _)) (execs (_ :: _) (envOfC _ ⟨_, _, _, _, _⟩ _ _ _)) _ _ _
  dsimp only at F1 ⊢
  refine stmt_any (for_any ?_)
  k_steps
  rename_i hrg F2 N2 hkp
  clear hkp
  unfold Nxt
  refine loopA_range (n := f.length) (JK aX aF aK aS L xv fv kv sv nX nF nK nS d2 tl) rfl rfl hrg rfl (by omega) F2 N2 ⟨d1, d5, v1, v5, rfl, hd1, hd5, rfl, rfl, rfl, rfl, trivial⟩ ?_ ?_ ?_
  · rintro i ti m₁ nx g tg own hi hown hob ⟨a1, a5, w1, w5, rfl, ha1, ha5, P1⟩ F3 N3
    have N4 : News hb L g (ledK aX aF aK aS L xv fv kv sv nX nF nK nS a1 d2 a5 (tl ++ own)) := fun p hp => N3 p (by
      revert p
      repeat (first | exact List.forall_mem_nil _ | refine List.forall_mem_cons.mpr ⟨by repeat (first | exact List.Mem.head _ | refine List.Mem.tail _ ?_ | refine List.mem_append_right _ ?_), ?_⟩ | refine List.forall_mem_append.mpr ⟨fun z hz => by repeat (first | exact hz | exact List.mem_append_left _ hz | refine List.Mem.tail _ ?_ | refine List.mem_append_right _ ?_), ?_⟩ | exact fun z hz => by repeat (first | exact hz | exact List.mem_append_left _ hz | refine List.Mem.tail _ ?_ | refine List.mem_append_right _ ?_)))
    clear N3
    have hB7 : @LT.lt Nat _ (L + 1 + 1 + 1 + 1 + 1 + 1 + 1) _ := Heap.lt_size (N2 (L + 1 + 1 + 1 + 1 + 1 + 1 + 1, d1) (.tail _ (.tail _ (.tail _ (.tail _ (.head _)))))).1
    have hB : Ap3 L _ := ap3_lt hB7
    have hap2 : ∀ p ∈ (aX, W.listOf (List.toArray xv) nX) :: (aF, W.listOf (List.toArray fv) nF) :: (aK, W.listOf (List.toArray kv) nK) :: (aS, W.listOf sv.toArray nS) :: (tl ++ own), Ap3 L p.1 := by
      intro p hp
      rcases List.mem_cons.mp hp with rfl | hp
      · exact hap _ (.head _)
      rcases List.mem_cons.mp hp with rfl | hp
      · exact hap _ (.tail _ (.head _))
      rcases List.mem_cons.mp hp with rfl | hp
      · exact hap _ (.tail _ (.tail _ (.head _)))
      rcases List.mem_cons.mp hp with rfl | hp
      · exact hap _ (.tail _ (.tail _ (.tail _ (.head _))))
      rcases List.mem_append.mp hp with hp | hp
      · exact hap _ (.tail _ (.tail _ (.tail _ (.tail _ hp))))
      · rw [hown p hp]; exact hB
    clear F2 N2
    refine wpAny_assign_Name (stCN (own := (aX, W.listOf (List.toArray xv) nX) :: (aF, W.listOf (List.toArray fv) nF) :: (aK, W.listOf (List.toArray kv) nK) :: (aS, W.listOf sv.toArray nS) :: (L + 1 + 1 + 1 + 1 + 1 + 1 + 1, a1) :: [(L + 1 + 1 + 1 + 1 + 1 + 1, d2)]) (rest := tl ++ own) F3 N4 (by rfl) ha5 ?_ ?_ ?_)
    · intro p hp
      rcases List.mem_cons.mp hp with rfl | hp
      · exact (hap _ (.head _)).2.2
      rcases List.mem_cons.mp hp with rfl | hp
      · exact (hap _ (.tail _ (.head _))).2.2
      rcases List.mem_cons.mp hp with rfl | hp
      · exact (hap _ (.tail _ (.tail _ (.head _)))).2.2
      rcases List.mem_cons.mp hp with rfl | hp
      · exact (hap _ (.tail _ (.tail _ (.tail _ (.head _))))).2.2
      rcases List.mem_cons.mp hp with rfl | hp
      · exact (cell_37 _).symm
      · rw [List.mem_singleton.mp hp]; exact (cell_36 _).symm
    · intro p hp
      exact (hap2 _ (.tail _ (.tail _ (.tail _ (.tail _ hp))))).2.2
    intro h5 a5' F5 N5 ha5'
    clear F3 N4
    change News hb L h5 (ledK aX aF aK aS L xv fv kv sv nX nF nK nS a1 d2 a5' (tl ++ own)) at N5
    dsimp only at F5 ⊢
    unfold Nxt
    refine last_one (i := i) G F5 N5 ha1 hd2 ha5' (fun p hp => List.mem_append_left _ (hfl p hp)) P1 hsz hs6 hval hfv hfr hkv hbk hfit hi (fun p hp => (hap2 p hp).1) ?_
    intro h6 tk6 m6 aE ys a1' F6 N6 ha1' hys P6
    obtain ⟨y, hy⟩ : ∃ y, f[i]? = some y := ⟨_, List.getElem?_eq_getElem hi⟩
    obtain ⟨x, hx⟩ : ∃ x, l.reverse[i]? = some x := ⟨_, List.getElem?_eq_getElem (by rw [List.length_reverse, e1]; exact hi)⟩
    obtain ⟨b1, b2, b3⟩ := e4 i x y hy hx
    refine last_two (nF := nF) (nK := nK) (nS := nS) (i := i) (x := x) (y := y) (size := size) (f := f) (l := l.reverse) (ks := kths (fits size wl (2 ^ size)) f.length i) (tl := (aX, W.listOf (List.toArray xv) nX) :: (L + 1 + 1 + 1 + 1 + 1 + 1, d2) :: (tl ++ own)) G F6 (fun p hp => N6 p ?_) ha1' ha5' P6 hsz hs6 hys hfv hkv hff hx hy (by omega) b2 ?_ b1 ?_
    · revert p
      repeat (first | exact List.forall_mem_nil _ | refine List.forall_mem_cons.mpr ⟨by repeat (first | exact List.Mem.head _ | refine List.Mem.tail _ ?_ | refine List.mem_append_right _ ?_), ?_⟩ | refine List.forall_mem_append.mpr ⟨fun z hz => by repeat (first | exact hz | exact List.mem_append_left _ hz | refine List.Mem.tail _ ?_ | refine List.mem_append_right _ ?_), ?_⟩ | exact fun z hz => by repeat (first | exact hz | exact List.mem_append_left _ hz | refine List.Mem.tail _ ?_ | refine List.mem_append_right _ ?_))
    · intro q hq
      rw [b3 q hq]
      unfold kths
      rw [List.mem_map]
      constructor
      · rintro ⟨c, hc, hcl, hck⟩
        exact ⟨c, List.mem_filter.mpr ⟨hc, decide_eq_true hcl⟩, by rw [List.getD_eq_getElem?_getD, hck]; rfl⟩
      · rintro ⟨c, hc, hck⟩
        obtain ⟨hc1, hc2⟩ := List.mem_filter.mp hc
        have hcl : c.length = f.length := of_decide_eq_true hc2
        refine ⟨c, hc1, hcl, ?_⟩
        obtain ⟨z, hz⟩ : ∃ z, c[i]? = some z := ⟨_, List.getElem?_eq_getElem (by omega)⟩
        rw [List.getD_eq_getElem?_getD, hz] at hck
        rw [hz, ← hck]; rfl
    · intro h7 tk7 m7 F7 N7 P7
      refine ⟨h7, tk7, m7, ledK aX aF aK aS L xv fv kv sv nX nF nK nS a1' d2 a5' tl, rfl, F7, fun p hp => N7 p ?_, a1', a5', _, _, rfl, ha1', ha5', P7⟩
      revert p
      repeat (first | exact List.forall_mem_nil _ | refine List.forall_mem_cons.mpr ⟨by repeat (first | exact List.Mem.head _ | refine List.Mem.tail _ ?_ | refine List.mem_append_right _ ?_), ?_⟩ | refine List.forall_mem_append.mpr ⟨fun z hz => by repeat (first | exact hz | exact List.mem_append_left _ hz | refine List.Mem.tail _ ?_ | refine List.mem_append_right _ ?_), ?_⟩ | exact fun z hz => by repeat (first | exact hz | exact List.mem_append_left _ hz | refine List.Mem.tail _ ?_ | refine List.mem_append_right _ ?_))
  · rintro i m' nx ⟨a1, a5, w1, w5, rfl, ha1, ha5, P1⟩ p hp
    have lt : ∀ q ∈ ledK aX aF aK aS L xv fv kv sv nX nF nK nS d1 d2 d5 tl, @LT.lt Nat _ q.1 _ := fun q hq => Heap.lt_size (N2 q hq).1
    rcases List.mem_cons.mp hp with rfl | hp
    · exact Nat.ne_of_lt (lt _ (.head _))
    rcases List.mem_cons.mp hp with rfl | hp
    · exact Nat.ne_of_lt (lt _ (.tail _ (.head _)))
    rcases List.mem_cons.mp hp with rfl | hp
    · exact Nat.ne_of_lt (lt _ (.tail _ (.tail _ (.head _))))
    rcases List.mem_cons.mp hp with rfl | hp
    · exact Nat.ne_of_lt (lt _ (.tail _ (.tail _ (.tail _ (.head _)))))
    rcases List.mem_cons.mp hp with rfl | hp
    · exact Nat.ne_of_lt (lt (_, d1) (.tail _ (.tail _ (.tail _ (.tail _ (.head _))))))
    rcases List.mem_cons.mp hp with rfl | hp
    · exact Nat.ne_of_lt (lt _ (.tail _ (.tail _ (.tail _ (.tail _ (.tail _ (.head _)))))))
    rcases List.mem_cons.mp hp with rfl | hp
    · exact Nat.ne_of_lt (lt (_, d5) (.tail _ (.tail _ (.tail _ (.tail _ (.tail _ (.tail _ (.head _))))))))
    · exact Nat.ne_of_lt (lt _ (mem_skip7 hp))
  · rintro m₁ nx g tg ⟨a1, a5, w1, w5, rfl, ha1, ha5, P1⟩ F3 N3
    dsimp only
    refine stmt_any ?_
    k_steps
    unfold Nxt
    exact k g tg F3.keep
end Mine
end
section
open PySem PySem.W PyProof.Rows PySem.Calls LCg
set_option Elab.async false
set_option linter.unusedVariables false
set_option maxRecDepth 100000
namespace Mine
theorem apart7_of {L a : Nat} {c1 c2 c3 c4 c5 c6 c7 : Obj} (h : ∀ p ∈ cells7 L c1 c2 c3 c4 c5 c6 c7, p.1 ≠ a) : Apart7 L a :=
  ⟨(h (L + 1, c7) (by repeat (first | exact List.Mem.head _ | refine List.Mem.tail _ ?_))).symm, (h (L + 1 + 1, c6) (by repeat (first | exact List.Mem.head _ | refine List.Mem.tail _ ?_))).symm, (h (L + 1 + 1 + 1, c5) (by repeat (first | exact List.Mem.head _ | refine List.Mem.tail _ ?_))).symm, (h (L + 1 + 1 + 1 + 1, c4) (by repeat (first | exact List.Mem.head _ | refine List.Mem.tail _ ?_))).symm, (h (L + 1 + 1 + 1 + 1 + 1, c3) (by repeat (first | exact List.Mem.head _ | refine List.Mem.tail _ ?_))).symm, (h (L + 1 + 1 + 1 + 1 + 1 + 1, c2) (by repeat (first | exact List.Mem.head _ | refine List.Mem.tail _ ?_))).symm, (h (L + 1 + 1 + 1 + 1 + 1 + 1 + 1, c1) (by repeat (first | exact List.Mem.head _ | refine List.Mem.tail _ ?_))).symm⟩
theorem Apart7.ap3 {L a : Nat} (h : Apart7 L a) : Ap3 L a := ⟨h.2.2.2.2.2.2, h.2.2.2.2.2.1, h.2.2.1⟩
theorem PairsL.mono {pl tl : List (Addr × Obj)} {rs : List Value} {ps : List (Nat × Nat)} (h : PairsL pl rs ps) (hs : ∀ p ∈ pl, p ∈ tl) : PairsL tl rs ps :=
  ⟨h.1, fun j p hp => by obtain ⟨a, t1, t2, n, e, m⟩ := h.2 j p hp; exact ⟨a, t1, t2, n, e, hs _ m⟩⟩
set_option maxHeartbeats 8000000 in
theorem tail02 {w : World} {mg mb : Str → Option Value} {s : Shared} {Q : Flow → Shared → Prop} {hb : Heap} {L aS aT aN D : Addr} {sv tv nv ws : List Value} {nS : Nat} {xs : List Int} {qs : List (Nat × Nat)} {c1 c2 c3 c4 c5 d6 d7 : Obj} {v1 v2 v3 v4 v5 : Option Value} {m : Str → Option Value} {cd : Value}
    (G : Gd w mg mb hb) (F : Fr hb L s.heap m)
    (N : News hb L s.heap ((aS, W.listOf sv.toArray nS) :: (aT, LCg.lst tv) :: (aN, LCg.lst nv) :: (D, W.listOf ws.toArray 0) :: cells7 L c1 c2 c3 c4 c5 d6 d7))
    (P : Pins m [(Str.ofString "shelf", .ref aS), (Str.ofString "draws", .ref D)])
    (h1 : c1.data = .cell v1) (h2 : c2.data = .cell v2) (h3 : c3.data = .cell v3) (h4 : c4.data = .cell v4) (h5 : c5.data = .cell v5) (h7 : d7.data = .cell (some (.ref aN)))
    (hS : Apart7 L aS) (hT : Apart7 L aT) (hN : Apart7 L aN) (hD : Apart7 L D)
    (hI : IntsAre ws xs) (h6 : xs.length ≤ 6) (hnv : IntsAre nv (zs (xs.map num))) (hsh : Shf (xs.map num) (xs.map num).length qs) (hsv : SV sv (qs.map (lbl xs)))
    (k : ∀ h' tk', (∀ b o, hb.get? b = some o → h'.get? b = some o) → Q (.ret (.bool true)) { s with heap := h', toks := tk' }) :
    wpC (model Challenge.rw_ph0088_02.row.prog w) (callerA.deeper (lawE L cd)) (execs (lawB 6) (lawE L cd)) Q NoE s := by
  have hsz : sv.length = xs.length := by rw [hsv.length, List.length_map, hsh.len (Nat.le_refl _), List.length_map]
  refine wins02 G F N P h3 h4 h7 hS hT hN hD hI h6 hnv hsh hsv ?_
  intro ha tka ma aW rr n pl wl Fa Na hpr hwl hval hW hplA Pa
  refine wpC_of_any (rest_one G Fa Na Pa hpr hwl hsz h6 hval ?_ ?_)
  · intro p hp
    rcases List.mem_cons.mp hp with rfl | hp
    · exact hW.ap3
    rcases List.mem_cons.mp hp with rfl | hp
    · exact hS.ap3
    · exact (hplA p hp).ap3
  intro hb2 tkb mb2 aF aK aX fv kv xv nF nK nX f l fl Fb Nb hfv hfr hkv hbk hfit hap Pb
  refine rest_two (tl := pl ++ fl) (fl := fl) G Fb Nb h2 (fun p hp => List.mem_append_right _ hp) Pb (hpr.mono fun p hp => List.mem_append_left _ hp) hwl hsz h6 hval hfv hfr hkv hbk hfit hap ?_
  intro hc tkc mc d2 tM Fc Nc hd2 Pc
  refine rest_three (tl := pl ++ fl) (fl := fl) (nX := nX) (nF := nF) (nK := nK) (nS := nS) (d1 := c1) (d5 := c5) G Fc (fun p hp => Nc p ?_) h1 hd2 h5 (fun p hp => List.mem_append_right _ hp) ⟨Pc.1, Pc.2.1, Pc.2.2.1, Pc.2.2.2.2.1, trivial⟩ hsz h6 hval hfv hfr hkv hbk hfit ?_ ?_
  · revert p
    repeat (first | exact List.forall_mem_nil _ | refine List.forall_mem_cons.mpr ⟨by repeat (first | exact List.Mem.head _ | refine List.Mem.tail _ ?_ | refine List.mem_append_right _ ?_), ?_⟩ | refine List.forall_mem_append.mpr ⟨fun z hz => by repeat (first | exact hz | exact List.mem_append_left _ hz | refine List.Mem.tail _ ?_ | refine List.mem_append_right _ ?_), ?_⟩ | exact fun z hz => by repeat (first | exact hz | exact List.mem_append_left _ hz | refine List.Mem.tail _ ?_ | refine List.mem_append_right _ ?_))
  · intro p hp
    refine hap p ?_
    revert p
    repeat (first | exact List.forall_mem_nil _ | refine List.forall_mem_cons.mpr ⟨by repeat (first | exact List.Mem.head _ | refine List.Mem.tail _ ?_ | refine List.mem_append_right _ ?_), ?_⟩ | refine List.forall_mem_append.mpr ⟨fun z hz => by repeat (first | exact hz | exact List.mem_append_left _ hz | refine List.Mem.tail _ ?_ | refine List.mem_append_right _ ?_), ?_⟩ | exact fun z hz => by repeat (first | exact hz | exact List.mem_append_left _ hz | refine List.Mem.tail _ ?_ | refine List.mem_append_right _ ?_))
  · intro h' tk' hk
    exact k h' tk' hk
end Mine
end
section
open PySem PySem.W PyProof.Rows PySem.Calls LCg
set_option Elab.async false
set_option linter.unusedVariables false
set_option maxRecDepth 100000
namespace Mine
set_option maxHeartbeats 8000000 in
theorem main02 {w : World} {mg mb : Str → Option Value} {s : Shared} {R : Result → Shared → Prop} {sc : Addr} {vs : List Value} {ns : List Int}
    (G : Gd w mg mb s.heap) (hsc : s.heap.IsList sc vs.toArray) (hI : IntsAre vs ns) (hn : ns.length ≤ 63)
    (k : ∀ h' tk', (∀ b o, s.heap.get? b = some o → h'.get? b = some o) → R (.ok (.ret (.bool true))) { s with heap := h', toks := tk' }) :
    codeC (model Challenge.rw_ph0088_02.row.prog w) callerA (.call (.ref 126) ⟨[.ref sc], []⟩) R s := by
  have X := G.X
  have T := G.T
  revert X; k_fill; intro X
  refine call_CC (K := hd.heap_39 w.params) (binds := [(Str.ofString "script", .ref sc)]) (fun _ _ e => e) G.X G.T.nolimit rfl rfl (by decide +kernel) (BindsTo.of_eq rfl) ?kind (by decide) (fun L h₁ tk cells F N hc => ?_)
  case kind =>
    intro n x hx
    left
    simp only [List.mem_cons, List.not_mem_nil, or_false] at hx
    rcases hx with rfl
    rfl
  change CellsAre _ [_, _, _, _, _, _, _] _ at hc
  obtain ⟨c1, c2, c3, c4, c5, c6, c7, rfl, hc1, hc2, hc3, hc4, hc5, hc6, hc7⟩ := cells_seven hc
  clear hc
  change c1.data = .cell none at hc1
  change c2.data = .cell none at hc2
  change c3.data = .cell none at hc3
  change c4.data = .cell none at hc4
  change c5.data = .cell none at hc5
  change c6.data = .cell none at hc6
  change c7.data = .cell none at hc7
  change Fr s.heap L h₁ _ at F
  refine wpC_execs_any (wpAny_mono (Q := Start02 s L c1 c2 c3 c4 c5 c6 c7) (E := NoE) ?_ ?_ fun _ _ x => x.elim)
  · k_steps
    · rename Fr _ _ _ _ => F4
      rename News _ _ _ _ => N4
      rename IntsAre _ (_ ++ _) => hI4
      rename_i l9 _
      have hlen : (List.take 5 ns).length = min 5 ns.length := List.length_take
      refine ⟨rfl, _, _, _, _, _, _, rfl, F4, nw_cons N4 (.head _) fun q hq => N4 q (.tail _ (.tail _ (.tail _ hq))), l9.2.2.1, hI4, ?_, ?_, rfl, trivial⟩
      · rw [List.length_append, List.length_singleton]; omega
      · rw [List.length_append, List.length_singleton]; omega
    · rename Fr _ _ _ _ => F4
      rename News _ _ _ _ => N4
      rename_i l9 _
      refine ⟨rfl, _, _, [6457, 9413, 36830, 18531, 28076], _, _, _, rfl, F4, nw_cons N4 (.head _) fun q hq => N4 q (.tail _ (.tail _ (.tail _ (.tail _ hq)))), l9.2.2.2.1, by repeat constructor, by decide, by decide, rfl, trivial⟩
  · rintro f s₁ ⟨rfl, D, ws, xs, h, tk2, m', rfl, F2, N2, hLD, hI2, h2, h6, P2⟩
    have F3 := pins F2 _ P2
    clear F2 F N hI hsc
    dsimp only at F3 ⊢
    refine wpC_execs_any ?_
    iterate 1 (first | walk1 | (dsimp only; walk1))
    refine comp_E F3 (by with_unfolding_all rfl) (by decide) (by rfl) (by decide) ?_
    iterate 1 (first | walk1 | (dsimp only; walk1))
    have hlen : ws.length = xs.length := IntsAre.length hI2
    have hx6 : xs.length ≤ 6 := h6
    have hl6 : ws.length ≤ 6 := by rw [hlen]; exact h6
    refine CSrc.name (n := ws.length) (P := fun j v => ws[j]? = some v) (S := fun nx => LCg.SrcAt s.heap D ws.toArray nx) (J := fun j ys nx => nx = (D, W.listOf (List.toArray ws) 0) :: cells7 L c1 c2 c3 c4 c5 c6 c7 ∧ IntsAre ys (zs ((xs.take j).map num))) (Src.list rfl ⟨_, (N2 _ (.head _)).1, rfl, _, rfl⟩) (by rw [sizeLine_eq]; omega) F3 N2 ?_ ⟨rfl, .nil⟩ ?_ ?_
    · rintro j ys nx ⟨rfl, _⟩; exact .inr ⟨_, .head _, rfl, _, rfl⟩
    · intro g
      refine CTurn.none ?_
      rintro j v ys nx I oI C oC D' m₂ h9 tk9 E' hj hP ⟨rfl, hys⟩ hm1 hC F9 N9 off ne
      obtain ⟨x, tx, rfl, hx⟩ := hI2.at j v hP
      clear F3 N2
      k_steps
      refine ⟨h9, _, _, rfl, F9, N9, off, trivial, rfl, ?_⟩
      rw [List.take_add_one, hx, Option.toList_some, List.map_append, num_eq x]
      exact ints_snoc hys
    · rintro g nv nx ⟨rfl, hnv⟩
      rw [hlen, List.take_length] at hnv
      intro aN h4 tk4 F4 N4 o4
      clear F3 N2
      have ne4 := off1_mem o4
      refine stCN (own := (aN, LCg.lst nv) :: (D, W.listOf (List.toArray ws) 0) :: [(L + 1 + 1 + 1 + 1 + 1 + 1 + 1, c1), (L + 1 + 1 + 1 + 1 + 1 + 1, c2), (L + 1 + 1 + 1 + 1 + 1, c3), (L + 1 + 1 + 1 + 1, c4), (L + 1 + 1 + 1, c5), (L + 1 + 1, c6)]) (rest := []) F4 N4 (by rfl) hc7 ?_ (fun p hp => by cases hp) ?_
      · have e1 := ne4 (L + 1, c7) (.tail _ (.tail _ (.tail _ (.tail _ (.tail _ (.tail _ (.tail _ (.head _))))))))
        intro p hp
        rcases List.mem_cons.mp hp with rfl | hp
        · exact fun e => e1 e.symm
        · rcases List.mem_cons.mp hp with rfl | hp
          · exact (below7 hLD).1
          · exact own_numbers p hp
      intro h5 d7 F5 N5 hd7
      clear F4 N4 hc7
      change News s.heap L h5 ((aN, LCg.lst nv) :: (D, W.listOf (List.toArray ws) 0) :: cells7 L c1 c2 c3 c4 c5 c6 d7) at N5
      dsimp only at F5 ⊢
      refine wpC_execs_any ?_
      iterate 1 (first | walk1 | (dsimp only; walk1))
      refine comp_E F5 (by with_unfolding_all rfl) (by decide) (by rfl) (by decide) ?_
      iterate 1 (first | walk1 | (dsimp only; walk1))
      refine CSrc.name (n := ws.length) (P := fun j v => ws[j]? = some v) (S := fun nx => LCg.SrcAt s.heap D ws.toArray nx) (J := fun j ys nx => nx = (aN, LCg.lst nv) :: (D, W.listOf (List.toArray ws) 0) :: cells7 L c1 c2 c3 c4 c5 c6 d7 ∧ SV ys ((xs.take j).map txt)) (Src.list rfl ⟨_, (N5 _ (.tail _ (.head _))).1, rfl, _, rfl⟩) (by rw [sizeLine_eq]; exact Nat.le_trans hl6 (by decide)) F5 N5 ?_ ⟨rfl, .nil⟩ ?_ ?_
      · rintro j ys nx ⟨rfl, _⟩; exact .inr ⟨_, .tail _ (.head _), rfl, _, rfl⟩
      · intro g
        refine CTurn.none ?_
        rintro j v ys nx I oI C oC D' m₂ h9 tk9 E' hj hP ⟨rfl, hys⟩ hm1 hC F9 N9 off ne
        obtain ⟨x, tx, rfl, hx⟩ := hI2.at j v hP
        clear F5 N5
        have Gs := G.keeps F9.keep
        k_steps
        rename Fr _ _ _ _ => F10
        rename News _ _ _ _ => N10
        rw [num_eq x, sty_eq x]
        refine spelled_any G F10 N10 (by show callerA.depth + 1 + 5 < recursionLimit; decide +kernel) rfl (num_lt x) (Nat.le_trans (Nat.le_of_lt (sty_lt x)) (by decide)) ?_
        intro h11 tk11 t11 F11 N11
        refine ⟨h11, _, _, rfl, F11, N11, off, trivial, rfl, ?_⟩
        rw [List.take_add_one, hx, Option.toList_some, List.map_append]
        exact hys.append (SV.one _ _)
      · rintro g tv nx ⟨rfl, htv⟩
        rw [hlen, List.take_length] at htv
        intro aT h6 tk6 F6 N6 o6
        clear F5 N5
        have ne6 := off1_mem o6
        refine stCN (own := (aT, LCg.lst tv) :: (aN, LCg.lst nv) :: (D, W.listOf (List.toArray ws) 0) :: [(L + 1 + 1 + 1 + 1 + 1 + 1 + 1, c1), (L + 1 + 1 + 1 + 1 + 1 + 1, c2), (L + 1 + 1 + 1 + 1 + 1, c3), (L + 1 + 1 + 1 + 1, c4), (L + 1 + 1 + 1, c5)]) (rest := [(L + 1, d7)]) F6 N6 (by rfl) hc6 ?_ rest_texts ?_
        · have e1 := ne6 (L + 1 + 1, c6) (.tail _ (.tail _ (.tail _ (.tail _ (.tail _ (.tail _ (.tail _ (.head _))))))))
          have e2 := ne4 (L + 1 + 1, c6) (.tail _ (.tail _ (.tail _ (.tail _ (.tail _ (.tail _ (.head _)))))))
          intro p hp
          rcases List.mem_cons.mp hp with rfl | hp
          · exact fun e => e1 e.symm
          · rcases List.mem_cons.mp hp with rfl | hp
            · exact fun e => e2 e.symm
            · rcases List.mem_cons.mp hp with rfl | hp
              · exact (below7 hLD).2.1
              · exact own_texts p hp
        intro h7 d6 F7 N7 hd6
        clear F6 N6 hc6
        change News s.heap L h7 ((aT, LCg.lst tv) :: (aN, LCg.lst nv) :: (D, W.listOf (List.toArray ws) 0) :: cells7 L c1 c2 c3 c4 c5 d6 d7) at N7
        dsimp only at F7 ⊢
        refine wpC_execs_any ?_
        k_steps
        refine wpC_execs_cons (wpC_For ?_)
        k_steps
        rename Fr _ _ _ _ => F8
        rename News _ _ _ _ => N8
        rename_i aS _ lS h8
        dsimp only at F8 N8 ⊢
        have hlt8 : ∀ p ∈ (aS, W.listOf #[] 0) :: (aT, LCg.lst tv) :: (aN, LCg.lst nv) :: (D, W.listOf (List.toArray ws) 0) :: cells7 L c1 c2 c3 c4 c5 d6 d7, @LT.lt Nat _ p.1 h8.objs.size := fun p hp => Heap.lt_size (N8 p hp).1
        have hTS : @LT.lt Nat _ aT aS := lS.1
        have hS8 : @LT.lt Nat _ aS h8.objs.size := hlt8 _ (.head _)
        have hNS : @LT.lt Nat _ aN aS := lS.2.1
        have hDS : @LT.lt Nat _ D aS := lS.2.2.1
        have hLS : @LT.lt Nat _ (at7 L) aS := lS.2.2.2.1
        have hn6 : tv.length = xs.length := by rw [htv.length, List.length_map]
        have hTL : aT ≠ L := (N8 _ (.tail _ (.head _))).2.1
        have hT0 : s.heap.get? aT = none := (N8 _ (.tail _ (.head _))).2.2
        have hTG : (aT, LCg.lst tv) ∈ (aT, LCg.lst tv) :: (aN, LCg.lst nv) :: (D, W.listOf (List.toArray ws) 0) :: cells7 L c1 c2 c3 c4 c5 d6 d7 := .head _
        generalize hGL : (aT, LCg.lst tv) :: (aN, LCg.lst nv) :: (D, W.listOf (List.toArray ws) 0) :: cells7 L c1 c2 c3 c4 c5 d6 d7 = GL at hlt8 N8 hTG
        have hGS : ∀ p ∈ GL, p.1 ≠ aS := by
          rw [← hGL]
          intro p hp
          rcases List.mem_cons.mp hp with rfl | hp
          · exact Nat.ne_of_lt hTS
          · rcases List.mem_cons.mp hp with rfl | hp
            · exact Nat.ne_of_lt hNS
            · rcases List.mem_cons.mp hp with rfl | hp
              · exact Nat.ne_of_lt hDS
              · exact cells_below hLS p hp
        refine loopC_list (JSh D aS xs GL) rfl ⟨_, (N8 _ (.tail _ hTG)).1, rfl, _, rfl⟩ hTL hT0 F8 N8 ⟨[], [], 0, rfl, Shf.start _, .nil, rfl, rfl, trivial⟩ ?_ ?_ ?_
        · rintro i v m₁ nx g tg own hv hown hob ⟨qs, sv, n, rfl, hsh, hsv, P1⟩ F9 N9
          obtain ⟨x0, hx0, t, rfl⟩ := htv.at hv
          rw [List.getElem?_map] at hx0
          obtain ⟨x, hx, rfl⟩ : ∃ x, xs[i]? = some x ∧ x0 = txt x := by
            cases e : xs[i]? with
            | none => rw [e] at hx0; cases hx0
            | some x => rw [e] at hx0; exact ⟨x, rfl, by simpa using hx0.symm⟩
          have F10 : Fr s.heap L g _ := pins F9 [(Str.ofString "text", .str (txt x) t), (Str.ofString "shelf", .ref aS), (Str.ofString "draws", .ref D)] ⟨rfl, P1⟩
          have N10 : News s.heap L g ((aS, W.listOf (List.toArray sv) n) :: (GL ++ own)) := fun p hp => N9 p (by
            revert p
            repeat (first | exact List.forall_mem_nil _ | refine List.forall_mem_cons.mpr ⟨by repeat (first | exact List.Mem.head _ | refine List.Mem.tail _ ?_ | refine List.mem_append_right _ ?_), ?_⟩ | refine List.forall_mem_append.mpr ⟨fun z hz => by repeat (first | exact hz | exact List.mem_append_left _ hz | refine List.Mem.tail _ ?_ | refine List.mem_append_right _ ?_), ?_⟩ | exact fun z hz => by repeat (first | exact hz | exact List.mem_append_left _ hz | refine List.Mem.tail _ ?_ | refine List.mem_append_right _ ?_)))
          clear F9 N9 F8 N8
          have hnum : (xs.map num)[i]? = some (num x) := by rw [List.getElem?_map, hx]; rfl
          obtain ⟨r, hr, hrc, hsh2⟩ := hsh.next hnum
          refine wpC_execs_cons (wpC_If (wpC_isTrue_Compare1 (wpC_Call_Name ?_)))
          k_steps
          refine wpC_call_K1 (K := hd.heap_39 w.params) rfl (wpC_of_any ?_)
          k_steps
          have hna : ∀ p ∈ GL ++ own, p.1 ≠ aS := by
            intro p hp
            rcases List.mem_append.mp hp with hp | hp
            · exact hGS p hp
            · rcases hown p hp with h | h
              · rw [h]; exact Nat.ne_of_lt hTS
              · rw [h]; exact Nat.ne_of_gt hS8
          have hi6 : i < 6 := Nat.lt_of_lt_of_le (List.getElem?_eq_some_iff.mp hx).1 hx6
          have hql : qs.length = i := hsh.len (by rw [List.length_map]; exact Nat.le_of_lt (List.getElem?_eq_some_iff.mp hx).1)
          refine ir_law2 (r := r) G F10 N10 hna hsv ?_ (spell_ok (num_lt x)).1 (by rw [List.length_map]; exact hr) (by rw [List.length_map, hql]; exact Nat.le_trans (Nat.le_of_lt hi6) (by decide)) ?_ ?_
          · intro l hl
            obtain ⟨q, hq, rfl⟩ := List.mem_map.mp hl
            exact (lbl_of hsh hq).1
          · intro m l _ _ hm
            rw [List.getElem?_map] at hm
            cases e : qs[m]? with
            | none => rw [e] at hm; cases hm
            | some q =>
              rw [e] at hm
              have hl : lbl xs q = l := by simpa using hm
              obtain ⟨_, k2, k3⟩ := lbl_of hsh (List.mem_of_getElem? e)
              rw [← hl, k2, show keyOf (txt x) = vk (num x) from (spell_ok (num_lt x)).2]
              exact ⟨(vk_lt (num_lt x) k3).1, ((vk_lt (num_lt x) k3).2).trans (hrc m q e)⟩
          intro h11 tk11 n11 F11 N11
          clear F10 N10
          refine wpC_of_any ?_
          k_steps
          refine wpC_execs_nil (wpC_execs_nil ⟨_, _, _, (aS, W.listOf (List.toArray (sv.take r ++ .str (txt x) t :: sv.drop r)) n11) :: GL, rfl, F11, ?_, qs.take r ++ (num x, i) :: qs.drop r, sv.take r ++ .str (txt x) t :: sv.drop r, n11, rfl, hsh2, ?_, rfl, rfl, trivial⟩)
          · intro p hp
            refine N11 p ?_
            revert p
            repeat (first | exact List.forall_mem_nil _ | refine List.forall_mem_cons.mpr ⟨by repeat (first | exact List.Mem.head _ | refine List.Mem.tail _ ?_ | refine List.mem_append_right _ ?_), ?_⟩ | refine List.forall_mem_append.mpr ⟨fun z hz => by repeat (first | exact hz | exact List.mem_append_left _ hz | refine List.Mem.tail _ ?_ | refine List.mem_append_right _ ?_), ?_⟩ | exact fun z hz => by repeat (first | exact hz | exact List.mem_append_left _ hz | refine List.Mem.tail _ ?_ | refine List.mem_append_right _ ?_))
          · have hlb : lbl xs (num x, i) = txt x := by unfold lbl; rw [List.getD_eq_getElem?_getD, List.getElem?_map, hx]; rfl
            rw [List.map_append, List.map_cons, List.map_take, List.map_drop, hlb]
            exact hsv.ins r _ _
        · rintro i m' nx ⟨qs, sv, n, rfl, _⟩ p hp
          rcases List.mem_cons.mp hp with rfl | hp
          · exact Nat.ne_of_lt hS8
          · exact Nat.ne_of_lt (hlt8 _ (.tail _ hp))
        · rintro m₁ nx g tg ⟨qs, sv, nS, rfl, hsh, hsv, P1⟩ F9 N9
          have F10 := pins F9 _ P1
          clear F9 F8 N8
          subst hGL
          dsimp only at F10 ⊢
          rw [hn6, ← List.length_map (f := num)] at hsh
          refine wpC_execs_any ?_
          iterate 3 (first | walk1 | (dsimp only; walk1))
          refine comp_E F10 (by with_unfolding_all rfl) (by decide) (by rfl) (by decide) ?_
          iterate 4 (first | walk1 | (dsimp only; walk1))
          refine comp_E F10 (by with_unfolding_all rfl) (by decide) (by rfl) (by decide) ?_
          k_steps
          rename_i hrg F12 N12 hkp
          clear hkp
          dsimp only at hrg F12 N12 ⊢
          have hnl : (xs.map num).zipIdx.length = xs.length := by rw [List.length_zipIdx, List.length_map]
          refine CSrc.name (n := xs.length) (P := fun j v => ∃ t, v = .int (j : Int) t) (S := fun _ => True) (J := fun j ys nx => ∃ tl, nx = (aS, W.listOf (List.toArray sv) nS) :: (aT, LCg.lst tv) :: (aN, LCg.lst nv) :: (D, W.listOf (List.toArray ws) 0) :: (L + 1 + 1 + 1 + 1 + 1 + 1 + 1, c1) :: (L + 1 + 1 + 1 + 1 + 1 + 1, c2) :: (L + 1 + 1 + 1 + 1 + 1, c3) :: (L + 1 + 1 + 1 + 1, c4) :: (L + 1 + 1 + 1, c5) :: (L + 1 + 1, d6) :: (L + 1, d7) :: tl ∧ TupsL tl ys ((xs.map num).zipIdx.take j)) (Src.range rfl hrg rfl (Nat.le_trans hx6 (by decide))) (by rw [sizeLine_eq]; exact Nat.le_trans hx6 (by decide)) F12 N12 (fun _ _ _ _ => trivial) ⟨[], rfl, rfl, fun j p h => by simp at h⟩ ?_ ?_
          · intro g2
            refine CTurn.none ?_
            rintro j v ys nx I oI C oC D' m₂ h9 tk9 E' hj ⟨t9, rfl⟩ ⟨tl, rfl, hys⟩ hm1 hC F13 N13 off ne
            clear F12 N12
            obtain ⟨nj, hnj⟩ : ∃ nj, (xs.map num)[j]? = some nj := ⟨_, List.getElem?_eq_getElem (by rw [List.length_map]; exact hj)⟩
            k_steps
            rename Fr _ _ _ _ => F14
            rename News _ _ _ _ => N14
            rename_i t14 aP h14 l14
            rw [Int.toNat_natCast, getD_at (zs_at hnj)] at N14
            refine ⟨h14, _, _, rfl, F14, fun p hp => N14 p ?_, Off3.of ?_, trivial, (aP, tupP (nj, j) t14 t9 0) :: tl, rfl, ?_⟩
            · revert p
              repeat (first | exact List.forall_mem_nil _ | refine List.forall_mem_cons.mpr ⟨by repeat (first | exact List.Mem.head _ | refine List.Mem.tail _ ?_ | refine List.mem_append_right _ ?_), ?_⟩ | refine List.forall_mem_append.mpr ⟨fun z hz => by repeat (first | exact hz | exact List.mem_append_left _ hz | refine List.Mem.tail _ ?_ | refine List.mem_append_right _ ?_), ?_⟩ | exact fun z hz => by repeat (first | exact hz | exact List.mem_append_left _ hz | refine List.Mem.tail _ ?_ | refine List.mem_append_right _ ?_))
            · intro p hp
              have hp' : p ∈ (aP, tupP (nj, j) t14 t9 0) :: (aS, W.listOf (List.toArray sv) nS) :: (aT, LCg.lst tv) :: (aN, LCg.lst nv) :: (D, W.listOf (List.toArray ws) 0) :: (L + 1 + 1 + 1 + 1 + 1 + 1 + 1, c1) :: (L + 1 + 1 + 1 + 1 + 1 + 1, c2) :: (L + 1 + 1 + 1 + 1 + 1, c3) :: (L + 1 + 1 + 1 + 1, c4) :: (L + 1 + 1 + 1, c5) :: (L + 1 + 1, d6) :: (L + 1, d7) :: tl := by
                revert p
                repeat (first | exact List.forall_mem_nil _ | refine List.forall_mem_cons.mpr ⟨by repeat (first | exact List.Mem.head _ | refine List.Mem.tail _ ?_ | refine List.mem_append_right _ ?_), ?_⟩ | refine List.forall_mem_append.mpr ⟨fun z hz => by repeat (first | exact hz | exact List.mem_append_left _ hz | refine List.Mem.tail _ ?_ | refine List.mem_append_right _ ?_), ?_⟩ | exact fun z hz => by repeat (first | exact hz | exact List.mem_append_left _ hz | refine List.Mem.tail _ ?_ | refine List.mem_append_right _ ?_))
              rcases List.mem_cons.mp hp' with rfl | hp'
              · exact ⟨Nat.ne_of_gt l14.1, Nat.ne_of_gt l14.2.1, Nat.ne_of_gt l14.2.2.1⟩
              · exact off.mem p hp'
            · rw [List.take_add_one, List.getElem?_zipIdx, hnj]
              simp only [Option.map_some, Option.toList_some, Nat.zero_add]
              exact hys.snoc
          · rintro g3 tvs nx ⟨tl, rfl, htl⟩
            rw [List.take_of_length_le (Nat.le_of_eq hnl)] at htl
            intro aQ h15 tk15 F15 N15 o15
            clear F12 N12
            iterate 1 (first | walk1 | (dsimp only; walk1))
            have htvl : tvs.length = xs.length := by rw [htl.1, hnl]
            refine sorted_tups (ps := (xs.map num).zipIdx) F15 N15 ⟨_, (N15 _ (.head _)).1, rfl, _, rfl⟩ (by rw [htvl]; exact h2) (by rw [htvl]; exact hx6) (fun h' N' => htl.at N' fun p hp => mem_skip8 (.tail _ (.tail _ (.tail _ (.tail _ hp))))) ?_ ?_
            · intro i j p q hij hp hq e
              rw [List.getElem?_zipIdx] at hp hq
              cases e1 : (xs.map num)[i]? with
              | none => rw [e1] at hp; cases hp
              | some a =>
                cases e2 : (xs.map num)[j]? with
                | none => rw [e2] at hq; cases hq
                | some b =>
                  rw [e1] at hp; rw [e2] at hq
                  simp only [Option.map_some, Option.some.injEq, Nat.zero_add] at hp hq
                  rw [← hp, ← hq] at e
                  injection e with _ e
                  exact hij e
            intro aR nR h16 us qs2 F16 N16 hlt16 htu hsl hmem husm
            have hqq : qs2 = qs := hsh.sorted hsl hmem
            subst hqq
            clear F15 N15
            have hul : us.length = xs.length := by rw [htu.len, hsh.len (Nat.le_refl _), List.length_map]
            have htu2 : ∀ (j : Nat) (u : Value), us[j]? = some u → ∃ q a t1 t2 n, qs2[j]? = some q ∧ u = .ref a ∧ (a, tupP q t1 t2 n) ∈ tl := by
              intro j u hu
              obtain ⟨q, hq⟩ : ∃ q, qs2[j]? = some q := ⟨_, List.getElem?_eq_getElem (by rw [← htu.len]; exact (List.getElem?_eq_some_iff.mp hu).1)⟩
              obtain ⟨a, t1, t2, n, e1, e2⟩ := htu.at' j q hq
              rw [hu] at e1
              obtain rfl : u = .ref a := Option.some.inj e1
              obtain ⟨i, hi⟩ := List.getElem?_of_mem (husm _ (List.mem_of_getElem? hu))
              obtain ⟨p, hp⟩ : ∃ p, (xs.map num).zipIdx[i]? = some p := ⟨_, List.getElem?_eq_getElem (by rw [← htl.1]; exact (List.getElem?_eq_some_iff.mp hi).1)⟩
              obtain ⟨b, u1, u2, m, e3, e4⟩ := htl.2 i p hp
              rw [hi] at e3
              obtain rfl : a = b := by injection (Option.some.inj e3)
              have e5 := (N16 (a, tupP p u1 u2 m) (.tail _ (.tail _ (.tail _ (.tail _ (.tail _ (.tail _ (.tail _ (.tail _ (.tail _ (.tail _ (.tail _ (.tail _ (.tail _ e4)))))))))))))).1
              dsimp only at e5
              rw [e2] at e5
              have e6 : tupP q t1 t2 n = tupP p u1 u2 m := Option.some.inj e5
              exact ⟨q, a, t1, t2, n, hq, rfl, by rw [e6]; exact e4⟩
            refine CSrc.pair (n := us.length) (P := fun j v => us[j]? = some v) (S := fun nx => LCg.SrcAt s.heap aR us.toArray nx) (J := fun j ys nx => nx = (aR, W.listOf (List.toArray us) nR) :: (aQ, LCg.lst tvs) :: (aS, W.listOf (List.toArray sv) nS) :: (aT, LCg.lst tv) :: (aN, LCg.lst nv) :: (D, W.listOf (List.toArray ws) 0) :: (L + 1 + 1 + 1 + 1 + 1 + 1 + 1, c1) :: (L + 1 + 1 + 1 + 1 + 1 + 1, c2) :: (L + 1 + 1 + 1 + 1 + 1, c3) :: (L + 1 + 1 + 1 + 1, c4) :: (L + 1 + 1 + 1, c5) :: (L + 1 + 1, d6) :: (L + 1, d7) :: tl ∧ SV ys ((qs2.take j).map (lbl xs))) (fun j u e => ∃ (q : Nat × Nat) (t1 t2 : Tok), qs2[j]? = some q ∧ u = .int (q.1 : Int) t1 ∧ e = .int (q.2 : Int) t2)
              (Src.list rfl ⟨_, (N16 _ (.head _)).1, rfl, _, rfl⟩) (by rw [hul, sizeLine_eq]; exact Nat.le_trans hx6 (by decide)) rfl F16 N16 ?_ ⟨rfl, .nil⟩ ?_ ?_ ?_
            · rintro j ys nx ⟨rfl, _⟩; exact .inr ⟨_, .head _, rfl, _, rfl⟩
            · rintro j v ys nx h9 hj hP ⟨rfl, _⟩ F9 N9
              obtain ⟨q, a, t1, t2, n0, hq, rfl, ha⟩ := htu2 j v hP
              exact ⟨a, _, _, rfl, .inr ⟨_, (N9 (a, tupP q t1 t2 n0) (.tail _ (.tail _ (.tail _ (.tail _ (.tail _ (.tail _ (.tail _ (.tail _ (.tail _ (.tail _ (.tail _ (.tail _ (.tail _ ha)))))))))))))).1, rfl, _, rfl⟩, q, t1, t2, hq, rfl, rfl⟩
            · intro g4
              refine CTurn.none ?_
              rintro j v ys nx I oI C oC D' m₂ h17 tk17 E' hj hP ⟨rfl, hys⟩ ⟨_, _, ⟨q, t1, t2, hq, rfl, rfl⟩, hm1, hm2⟩ hC F17 N17 off ne
              clear F16 N16
              iterate 3 (first | walk1 | (dsimp only; walk1))
              obtain ⟨hq2, hq3⟩ := hsh.mem (List.mem_of_getElem? hq)
              rw [List.length_map] at hq2
              obtain ⟨v, hv⟩ : ∃ v, tv[q.2]? = some v := ⟨_, List.getElem?_eq_getElem (by rw [hn6]; exact hq2)⟩
              obtain ⟨y, hy, ty, rfl⟩ := htv.at hv
              have hly : lbl xs q = y := by unfold lbl; rw [List.getD_eq_getElem?_getD, hy]; rfl
              rename Fr _ _ _ _ => F17
              rename News _ _ _ _ => N17
              refine item_listL ⟨_, (N17 (aT, LCg.lst tv) (.tail _ (.tail _ (.tail _ (.tail _ (.tail _ (.tail _ (.head _)))))))).1, rfl, _, rfl⟩ (Int.natCast_nonneg _) (nat63 (le4 (Nat.le_refl _) hq2 hx6 (by decide))) (by rw [Int.toNat_natCast]; exact hv) ?_
              refine ⟨h17, _, _, rfl, F17, N17, off, trivial, rfl, ?_⟩
              rw [List.take_add_one, hq, Option.toList_some, List.map_append, List.map_cons, hly]
              exact hys.append (SV.one _ _)
            · rintro g4 ys nx ⟨rfl, hys⟩
              have hql : qs2.length = us.length := htu.len.symm
              rw [← hql, List.take_length] at hys
              intro aB h18 tk18 F18 N18 o18
              clear F16 N16
              refine ne_same ⟨_, (N18 (aS, _) (.tail _ (.tail _ (.tail _ (.head _))))).1, rfl, _, rfl⟩ ⟨_, (N18 _ (.head _)).1, rfl, _, rfl⟩ hsv hys (by show callerA.units + _ < cLine; decide +kernel) ?_
              iterate 1 (first | walk1 | (dsimp only; walk1))
              rw [if_neg Bool.false_ne_true]
              refine wpAny_execs_nil ?_
              dsimp only at F18 ⊢
              have N19 : News s.heap L h18 ((aS, W.listOf (List.toArray sv) nS) :: (aT, LCg.lst tv) :: (aN, LCg.lst nv) :: (D, W.listOf (List.toArray ws) 0) :: cells7 L c1 c2 c3 c4 c5 d6 d7) := fun p hp => N18 p (.tail _ (.tail _ (.tail _ (List.mem_append_left tl hp))))
              clear N18 o18
              refine tail02 (cd := .ref 125) G F18 N19 ⟨rfl, rfl, trivial⟩ hc1 hc2 hc3 hc4 hc5 hd7 (.of_lt hLS) ?_ ?_ (.of_lt hLD) hI2 hx6 hnv hsh hsv ?_
              · exact apart7_of fun p hp => ne6 p (.tail _ (.tail _ hp))
              · exact apart7_of fun p hp => ne4 p (.tail _ hp)
              · intro h' tk' hk
                exact k h' tk' hk
end Mine
end
section
open PySem PySem.W PyProof.Rows PySem.Calls
set_option Elab.async false
set_option linter.unusedVariables false
set_option maxRecDepth 100000
namespace Mine

set_option maxHeartbeats 8000000 in
theorem law02 : Challenge.rw_ph0088_02.Holds := by
  refine hd ?_
  intro w s₀ s₁ mg mb G Y fa o pm cd doc dV kV ho hd hcd hD hmg hg args vals as hpre hlay hrd hwl hlo
  have KX := kIn_of Y
  refine Ground.open G ?_
  intro T B D TE TW
  have e126 : mg (Str.ofString "law") = some (.ref 126) := mg_of (K := Mine.hd.heap_39 w.params) KX T.g rfl
  have hfa : fa = 126 := by
    have h1 : mg (Str.ofString "law") = some (.ref fa) := hmg
    rw [e126] at h1; injection h1 with h1; injection h1 with h1; exact h1.symm
  subst hfa
  wrow_args hpre hlay hrd hwl hlo
  rename_i ns hs _ _ _ _ _ _ sc vs _ hsc _ _ _ hI _ hc1 _
  refine wpC_call (main02 ⟨KX, topRead_of T⟩ hsc hI (by omega) ?_)
  intro h' tk' hk
  refine ⟨.inl ⟨.bool true, .bool true, [], rfl, ?_, ?_, ?_, ?_⟩, .of_keep hk, rfl, ?_⟩
  · intro cls; rfl
  · exact .bool _
  · with_unfolding_all rfl
  · intro _; exact ⟨List.nodup_nil, fun a h => by cases h⟩
  · exact .of_eq hg
end Mine
end

theorem PySem.Challenge.cw_ph0088_02_holds : PySem.Challenge.rw_ph0088_02.Holds := by
  exact Mine.law02
