import PyProof.Rows.All
import Wide.All
import OpenK.AllK
import Wide.FinOn
import PySem.Challenge.RW_oy0125_01
set_option Elab.async false
set_option linter.all false
local macro_rules | `(tactic| walk_at $s:str) => `(tactic| k_extra $s)
local macro_rules | `(tactic| k_ne) => `(tactic| (refine PySem.W.neN ?_; (try dsimp only); first | assumption | (refine Ne.symm ?_; assumption) | exact Nat.ne_of_lt (by assumption) | exact Nat.ne_of_gt (by assumption)))
section
open PySem
set_option maxRecDepth 100000
namespace Mine
open PySem.Sre
abbrev tokC : Array Nat := #[14, 4, 0, 1, 4294967295, 6, 0, 24, 9, 0, 4294967295, 13, 4, 8, 12, 0, 1, 17, 0, 24, 19, 1, 4294967295, 13, 14, 21, 9, 0, 671092736, 0, 0, 0, 0, 0, 0, 8, 12, 0, 1, 17, 1, 1]
abbrev quoC : Array Nat := #[14, 4, 0, 3, 4294967295, 6, 0, 24, 9, 0, 4294967295, 13, 4, 8, 12, 0, 1, 16, 61, 24, 9, 0, 4294967295, 13, 4, 8, 12, 0, 1, 16, 34, 17, 0, 24, 12, 0, 4294967295, 13, 7, 21, 16, 34, 16, 92, 0, 1, 23, 19, 0, 4294967295, 16, 92, 2, 24, 12, 0, 4294967295, 13, 7, 21, 16, 34, 16, 92, 0, 1, 18, 17, 1, 16, 34, 1]
abbrev valC : Array Nat := #[14, 4, 0, 1, 4294967295, 6, 0, 24, 9, 0, 4294967295, 13, 4, 8, 12, 0, 1, 16, 61, 24, 9, 0, 4294967295, 13, 4, 8, 12, 0, 1, 17, 0, 24, 14, 0, 4294967295, 13, 9, 21, 8, 12, 16, 59, 16, 44, 0, 1, 17, 1, 1]

abbrev MS (code text : Array Nat) (lim ls start pc pos handed : Nat) (om : Bool) (marks : Array (Option Nat)) (lm li : Int) (fr : List Sre.Frame) (wt : Nat) (ans : Option Bool) (sn : Seen) : M :=
  { code := code, text := text, lim := lim, start := start, lastStart := ls, wholeText := false, mustAdvance := false, pc := pc, pos := pos, handed := handed, outermost := om, marks := marks, lastmark := lm, lastindex := li, loops := #[], inner := none, frames := fr, weight := wt, answer := ans, seen := sn, outcome := none }

theorem runFor_add (a b : Nat) (m : M) : M.runFor (a + b) m = M.runFor b (M.runFor a m) := by
  induction a generalizing m with
  | zero => simp [M.runFor]
  | succ a ih =>
    rw [Nat.succ_add]
    simp only [M.runFor]
    split
    · rename_i h
      cases b with
      | zero => rfl
      | succ b => simp [M.runFor, h]
    · exact ih _
/-- reach: some number of steps, bounded -/
def Rc (n : Nat) (m m' : M) : Prop := ∃ k, k ≤ n ∧ M.runFor k m = m'
theorem Rc.refl {m : M} : Rc 0 m m := ⟨0, Nat.le_refl _, rfl⟩
theorem Rc.trans {a b : Nat} {m m' m'' : M} (x : Rc a m m') (y : Rc b m' m'') : Rc (a + b) m m'' := by
  obtain ⟨k, hk, e⟩ := x
  obtain ⟨j, hj, e'⟩ := y
  exact ⟨k + j, by lia, by rw [runFor_add, e, e']⟩
theorem Rc.mono {a b : Nat} {m m' : M} (x : Rc a m m') (h : a ≤ b) : Rc b m m' := by
  obtain ⟨k, hk, e⟩ := x
  exact ⟨k, by lia, e⟩
theorem Rc.step {m m' : M} (ho : m.outcome = none) (e : m.step = m') : Rc 1 m m' := ⟨1, Nat.le_refl _, by simp [M.runFor, ho, e]⟩

section
variable {text : Array Nat} {lim ls start pc pos handed : Nat} {om : Bool} {marks : Array (Option Nat)} {lm li : Int} {fr : List Sre.Frame} {wt : Nat} {sn : Seen}
theorem tok_at : ∃ sn', (MS tokC text lim ls start 5 0 handed om marks lm li fr wt none sn).step = MS tokC text lim ls start 7 0 handed om marks lm li fr wt none sn' := ⟨_, rfl⟩
theorem tok_at' {p : Nat} : ∃ sn', (MS tokC text lim ls start 5 (p + 1) handed om marks lm li fr wt none sn).step = MS tokC text lim ls start 5 (p + 1) handed om marks lm li fr wt (some false) sn' := ⟨_, rfl⟩
noncomputable def cnt (P : Nat → Bool) (text : Array Nat) : Nat → Nat → Nat
  | 0, _ => 0
  | n + 1, p => if P (text.getD p 0) then cnt P text n (p + 1) + 1 else 0
theorem cnt_le {P : Nat → Bool} : ∀ {n p : Nat}, cnt P text n p ≤ n
  | 0, _ => Nat.le_refl _
  | n + 1, p => by unfold cnt; split; (have := @cnt_le P n (p + 1)); lia; lia
theorem run_cnt {code : Array Nat} {i : Nat} {P : Nat → Bool} (hacc : ∀ c sn, ∃ sn', accepts code i c sn = .ok (P c, sn')) : ∀ n p found sn, ∃ sn', Sre.run code text i n p found sn = .ok (found + cnt P text n p, sn')
  | 0, p, found, sn => ⟨sn, rfl⟩
  | n + 1, p, found, sn => by
    obtain ⟨sn1, e⟩ := hacc (text.getD p 0) sn
    unfold Sre.run cnt
    rw [e]
    cases h : P (text.getD p 0) with
    | false => exact ⟨sn1, by simp [Bind.bind, Except.bind, pure, Except.pure]⟩
    | true =>
      obtain ⟨sn2, e2⟩ := run_cnt hacc n (p + 1) (found + 1) sn1
      refine ⟨sn2, ?_⟩
      simp only [Bind.bind, Except.bind, if_true]
      rw [e2, Nat.add_right_comm, Nat.add_assoc]
theorem acc_sp (c : Nat) (sn : Seen) : ∃ sn', accepts tokC 11 c sn = .ok (Unicode.isSpace c, sn') := by
  have e : accepts tokC 11 c sn = (do if ← (Except.ok (Unicode.isSpace c) : Except String Bool).map (· != false) then pure (true, (sn.add 8).add (55 + 12)) else .ok (!true, ((sn.add 8).add (55 + 12)).add 0)) := rfl
  rw [e]
  cases Unicode.isSpace c <;> exact ⟨_, rfl⟩
def csT (c : Nat) : Bool := c < 256 && (tokC.getD (26 + (1 + c / 32)) 0).testBit (c % 32)
def tokP (c : Nat) : Bool := if csT c then false else !(Unicode.isSpace c)
theorem acc_tok (c : Nat) (sn : Seen) : ∃ sn', accepts tokC 23 c sn = .ok (tokP c, sn') := by
  have e : accepts tokC 23 c sn = (if csT c = true then .ok (!true, (sn.add 21).add 9) else (do if ← (Except.ok (Unicode.isSpace c) : Except String Bool).map (· != false) then pure (!true, (((sn.add 21).add 9).add 8).add (55 + 12)) else .ok (!(!true), ((((sn.add 21).add 9).add 8).add (55 + 12)).add 0))) := rfl
  rw [e]; unfold tokP
  cases csT c <;> cases Unicode.isSpace c <;> exact ⟨_, rfl⟩
abbrev GB (q p n : Nat) (om : Bool) (lm li : Int) : Sre.Frame := { wait := .giveBack, pc := q, pos := p, outermost := om, count := (n : Int), kept := { lastmark := lm, lastindex := li, whole := false, marks := #[] } }
theorem step_exec {C : Array Nat} {q p : Nat} (hsz : q < C.size) : (MS C text lim ls start q p handed om marks lm li fr wt none sn).step = M.exec (MS C text lim ls start q p handed om marks lm li fr wt none sn) := by
  unfold M.step
  simp [hsz]
theorem rep_step {C : Array Nat} {q p skip least : Nat} {P : Nat → Bool} (hop : ops[C.getD q 0]? = some .REPEAT_ONE) (h1 : C.getD (q + 1) 0 = skip) (h2 : C.getD (q + 2) 0 = least) (h3 : C.getD (q + 3) 0 = 4294967295) (hsz : q < C.size)
    (hacc : ∀ c sn, ∃ sn', accepts C (q + 4) c sn = .ok (P c, sn')) (hp : p ≤ lim) (hl : lim ≤ 4294967295) (hw : wt < 1000) (hn : least ≤ cnt P text (lim - p) p) :
    ∃ sn', (MS C text lim ls start q p handed om marks lm li fr wt none sn).step =
      MS C text lim ls start (q + 1 + skip) (p + cnt P text (lim - p) p) (p + cnt P text (lim - p) p) om marks lm li (GB q (p + cnt P text (lim - p) p) (cnt P text (lim - p) p) om lm li :: fr) (wt + 1) none sn' := by
  have hroom : ((lim : Int) - (p : Int)).toNat = lim - p := by lia
  have hmin : min 4294967295 (lim - p) = lim - p := by lia
  have hcl : cnt P text (lim - p) p ≤ lim - p := cnt_le
  have hneg : ¬ ((least : Int) > (lim : Int) - (p : Int)) := by lia
  rw [step_exec hsz]
  unfold M.exec
  simp only [M.word, Nat.add_zero, hop, h1, h2, h3, if_neg hneg, Bool.false_eq_true, if_false, hroom, hmin]
  obtain ⟨sn1, e1⟩ := run_cnt (text := text) hacc (lim - p) p 0 (((sn.add (C.getD q 0))).add (C.getD (q + 4) 0))
  rw [e1]
  simp only [Nat.zero_add, if_neg (Nat.not_lt.mpr hn)]
  unfold M.afterRun M.attempt
  simp only [M.keep, M.word, h1, Option.isSome_none, Bool.false_eq_true, if_false, M.frame]
  rw [if_neg (by simp; lia)]
  exact ⟨_, rfl⟩
theorem rep_fail {C : Array Nat} {q p least : Nat} {P : Nat → Bool} (hop : ops[C.getD q 0]? = some .REPEAT_ONE) (h2 : C.getD (q + 2) 0 = least) (h3 : C.getD (q + 3) 0 = 4294967295) (hsz : q < C.size)
    (hacc : ∀ c sn, ∃ sn', accepts C (q + 4) c sn = .ok (P c, sn')) (hp : p ≤ lim) (hl : lim ≤ 4294967295) (hn : cnt P text (lim - p) p < least) :
    ∃ sn', (MS C text lim ls start q p handed om marks lm li fr wt none sn).step = MS C text lim ls start q p handed om marks lm li fr wt (some false) sn' := by
  have hroom : ((lim : Int) - (p : Int)).toNat = lim - p := by lia
  have hmin : min 4294967295 (lim - p) = lim - p := by lia
  rw [step_exec hsz]
  unfold M.exec
  simp only [M.word, Nat.add_zero, hop, h2, h3, Bool.false_eq_true, if_false, hroom, hmin]
  by_cases hneg : ((least : Int) > (lim : Int) - (p : Int))
  · rw [if_pos hneg]; exact ⟨_, rfl⟩
  · rw [if_neg hneg]
    obtain ⟨sn1, e1⟩ := run_cnt (text := text) hacc (lim - p) p 0 (((sn.add (C.getD q 0))).add (C.getD (q + 4) 0))
    rw [e1]
    simp only [Nat.zero_add, if_pos hn]
    exact ⟨_, rfl⟩
/-- a literal -/
theorem lit_ok {C : Array Nat} {q p l : Nat} (hop : C.getD q 0 = 16) (h1 : C.getD (q + 1) 0 = l) (hsz : q < C.size) (hp : p < lim) (hc : text.getD p 0 = l) :
    ∃ sn', (MS C text lim ls start q p handed om marks lm li fr wt none sn).step = MS C text lim ls start (q + 2) (p + 1) handed om marks lm li fr wt none sn' := by
  rw [step_exec hsz]
  unfold M.exec
  have ho : ops[16]? = some .LITERAL := rfl
  simp only [M.word, Nat.add_zero, hop, ho, ge_iff_le, Nat.not_le.mpr hp, if_false]
  have ha : ∀ sn, accepts C q (text.getD p 0) sn = .ok (true, sn) := by
    intro sn; unfold accepts; simp only [hop, ho, h1, hc, beq_self_eq_true]
  have hw : itemWidth C q = 2 := by unfold itemWidth; simp only [hop, ho]
  rw [ha]
  simp only [hw]
  exact ⟨_, rfl⟩
theorem lit_no {C : Array Nat} {q p l : Nat} (hop : C.getD q 0 = 16) (h1 : C.getD (q + 1) 0 = l) (hsz : q < C.size) (hc : p < lim → text.getD p 0 ≠ l) :
    ∃ sn', (MS C text lim ls start q p handed om marks lm li fr wt none sn).step = MS C text lim ls start q p handed om marks lm li fr wt (some false) sn' := by
  rw [step_exec hsz]
  unfold M.exec
  have ho : ops[16]? = some .LITERAL := rfl
  simp only [M.word, Nat.add_zero, hop, ho]
  by_cases hp : p ≥ lim
  · rw [if_pos hp]; exact ⟨_, rfl⟩
  · rw [if_neg hp]
    have ha : ∀ sn, accepts C q (text.getD p 0) sn = .ok (false, sn) := by
      intro sn; unfold accepts; simp only [hop, ho, h1, beq_eq_false_iff_ne.mpr (hc (by lia))]
    rw [ha]
    exact ⟨_, rfl⟩
theorem mark0_step {C : Array Nat} {q p : Nat} (hop : C.getD q 0 = 17) (h1 : C.getD (q + 1) 0 = 0) (hsz : q < C.size) :
    ∃ sn', (MS C text lim ls start q p handed om marks (-1) li fr wt none sn).step = MS C text lim ls start (q + 2) p handed om (marks.setIfInBounds 0 (some p)) 0 li fr wt none sn' := by
  rw [step_exec hsz]
  unfold M.exec
  have ho : ops[17]? = some .MARK := rfl
  simp only [M.word, Nat.add_zero, hop, ho, h1]
  exact ⟨_, rfl⟩
theorem mark1_step {C : Array Nat} {q p : Nat} (hop : C.getD q 0 = 17) (h1 : C.getD (q + 1) 0 = 1) (hsz : q < C.size) :
    ∃ sn', (MS C text lim ls start q p handed om marks 0 li fr wt none sn).step = MS C text lim ls start (q + 2) p handed om (marks.setIfInBounds 1 (some p)) 1 1 fr wt none sn' := by
  rw [step_exec hsz]
  unfold M.exec
  have ho : ops[17]? = some .MARK := rfl
  simp only [M.word, Nat.add_zero, hop, ho, h1]
  exact ⟨_, rfl⟩
theorem succ_step {C : Array Nat} {q p : Nat} (hop : C.getD q 0 = 1) (hsz : q < C.size) :
    ∃ sn', (MS C text lim ls start q p handed om marks lm li fr wt none sn).step = MS C text lim ls start q p p om marks lm li fr wt (some true) sn' := by
  rw [step_exec hsz]
  unfold M.exec
  have ho : ops[1]? = some .SUCCESS := rfl
  simp only [M.word, Nat.add_zero, hop, ho, Bool.false_and, Bool.or_false, Bool.and_false, Bool.false_eq_true, if_false]
  exact ⟨_, rfl⟩
theorem at_ok {C : Array Nat} {q : Nat} (hop : C.getD q 0 = 6) (h1 : C.getD (q + 1) 0 = 0) (hsz : q < C.size) :
    ∃ sn', (MS C text lim ls start q 0 handed om marks lm li fr wt none sn).step = MS C text lim ls start (q + 2) 0 handed om marks lm li fr wt none sn' := by
  rw [step_exec hsz]
  unfold M.exec
  have ho : ops[6]? = some .AT := rfl
  simp only [M.word, Nat.add_zero, hop, ho, h1]
  exact ⟨_, rfl⟩
theorem at_no {C : Array Nat} {q p : Nat} (hop : C.getD q 0 = 6) (h1 : C.getD (q + 1) 0 = 0) (hsz : q < C.size) :
    ∃ sn', (MS C text lim ls start q (p + 1) handed om marks lm li fr wt none sn).step = MS C text lim ls start q (p + 1) handed om marks lm li fr wt (some false) sn' := by
  rw [step_exec hsz]
  unfold M.exec
  have ho : ops[6]? = some .AT := rfl
  simp only [M.word, Nat.add_zero, hop, ho, h1]
  exact ⟨_, rfl⟩
theorem gb_yes {C : Array Nat} {q p pc pos n : Nat} {om' : Bool} {lm' li' : Int} :
    (MS C text lim ls start pc pos handed om marks lm li (GB q p n om' lm' li' :: fr) (wt + 1) (some true) sn).step = MS C text lim ls start q p handed om' marks lm li fr wt (some true) sn := rfl
abbrev NS (s : Nat) (om : Bool) : Sre.Frame := { wait := .nextStart, pc := 5, pos := s, outermost := om }
theorem ns_yes {C : Array Nat} {pc pos p : Nat} {om' : Bool} :
    (MS C text lim ls start pc pos handed om marks lm li (NS p om' :: fr) (wt + 1) (some true) sn).step = MS C text lim ls start 5 p handed om' marks lm li fr wt (some true) sn := rfl
theorem gb_no0 {C : Array Nat} {q p pc pos : Nat} {om' : Bool} {lm' li' : Int} :
    (MS C text lim ls start pc pos handed om marks lm li (GB q p 0 om' lm' li' :: fr) (wt + 1) (some false) sn).step = MS C text lim ls start q p handed om' marks lm' li' fr wt (some false) sn := by
  show M.resume (MS C text lim ls start q p handed om' marks lm li fr wt none sn) (GB q p 0 om' lm' li') false = _
  unfold M.resume
  simp only [Bool.false_eq_true, if_false]
  rw [if_pos (by simp [M.word]; lia)]
  rfl
theorem gb_noS {C : Array Nat} {q p pc pos n skip : Nat} {om' : Bool} {lm' li' : Int} (h1 : C.getD (q + 1) 0 = skip) (h2 : C.getD (q + 2) 0 = 0) (hw : wt < 1000) :
    (MS C text lim ls start pc pos handed om marks lm li (GB q (p + 1) (n + 1) om' lm' li' :: fr) (wt + 1) (some false) sn).step = MS C text lim ls start (q + 1 + skip) p p om' marks lm' li' (GB q p n om' lm' li' :: fr) (wt + 1) none sn := by
  show M.resume (MS C text lim ls start q (p + 1) handed om' marks lm li fr wt none sn) (GB q (p + 1) (n + 1) om' lm' li') false = _
  unfold M.resume
  simp only [Bool.false_eq_true, if_false, M.word, h2]
  rw [if_neg (by lia)]
  unfold M.afterRun M.attempt M.putBack
  simp only [M.word, h1, M.frame, Bool.false_eq_true, if_false]
  rw [if_neg (by simp; lia)]
  simp
theorem ns_noLast {C : Array Nat} {pc pos p : Nat} {om' : Bool} (hp : ¬ p < ls) :
    (MS C text lim ls start pc pos handed om marks lm li (NS p om' :: fr) (wt + 1) (some false) sn).step = MS C text lim ls start 5 p handed om' marks lm li fr wt (some false) sn := by
  show M.resume (MS C text lim ls start 5 p handed om' marks lm li fr wt none sn) (NS p om') false = _
  unfold M.resume
  simp only [Bool.false_eq_true, if_false]
  rw [if_neg hp]; rfl
theorem ns_noNext {C : Array Nat} {pc pos p : Nat} {om' : Bool} (hp : p < ls) (hC : C.getD 2 0 = 0) (hw : wt < 1000) :
    (MS C text lim ls start pc pos handed om marks lm li (NS p om' :: fr) (wt + 1) (some false) sn).step = MS C text lim ls (p + 1) 5 (p + 1) (p + 1) false marks (-1) (-1) (NS (p + 1) false :: fr) (wt + 1) none sn := by
  show M.resume (MS C text lim ls start 5 p handed om' marks lm li fr wt none sn) (NS p om') false = _
  unfold M.resume
  simp only [Bool.false_eq_true, if_false]
  rw [if_pos hp]
  unfold M.attemptFrom M.hasFirstSet
  simp only [hC]
  rw [if_pos (by simp)]
  unfold M.attemptAt M.attempt
  rw [if_neg (by simp; lia)]
  simp
/-- every later start fails at once -/
theorem restart_fails {C : Array Nat} (hop : C.getD 5 0 = 6) (h1 : C.getD 6 0 = 0) (hsz : 5 < C.size) (hC : C.getD 2 0 = 0) : ∀ (k p start pc pos handed : Nat) (om om' : Bool) (lm li : Int) (sn : Seen), ls - p ≤ k →
    ∃ m', m'.outcome = some .failed ∧ Rc (2 * k + 2) (MS C text lim ls start pc pos handed om marks lm li [NS p om'] 1 (some false) sn) m' := by
  intro k
  induction k with
  | zero =>
    intro p start pc pos handed om om' lm li sn hk
    refine ⟨_, rfl, ((Rc.step rfl (ns_noLast (by lia))).trans (Rc.step rfl rfl))⟩
  | succ k ih =>
    intro p start pc pos handed om om' lm li sn hk
    by_cases hp : p < ls
    · obtain ⟨sn1, e1⟩ := at_no (C := C) (text := text) (lim := lim) (ls := ls) (start := p + 1) (q := 5) (p := p) (handed := p + 1) (om := false) (marks := marks) (lm := -1) (li := -1) (fr := [NS (p + 1) false]) (wt := 1) (sn := sn) hop h1 hsz
      obtain ⟨m', ho, r⟩ := ih (p + 1) (p + 1) 5 (p + 1) (p + 1) false false (-1) (-1) sn1 (by lia)
      exact ⟨m', ho, (((Rc.step rfl (ns_noNext hp hC (by lia))).trans (Rc.step rfl e1)).trans r).mono (by lia)⟩
    · exact ⟨_, rfl, ((Rc.step rfl (ns_noLast hp)).trans (Rc.step rfl rfl)).mono (by lia)⟩
end
end Mine
end
section
open PySem
set_option maxRecDepth 100000
namespace Mine
open PySem.Sre
section
variable {text : Array Nat} {lim ls start pc pos handed : Nat} {om : Bool} {marks : Array (Option Nat)} {lm li : Int} {fr : List Sre.Frame} {wt : Nat} {sn : Seen}
def Fz (C text : Array Nat) (lim ls : Nat) (marks : Array (Option Nat)) (fr : List Sre.Frame) (wt : Nat) (m : M) : Prop :=
  ∃ start pc pos handed om lm li sn, m = MS C text lim ls start pc pos handed om marks lm li fr wt (some false) sn
theorem fz_restart {C : Array Nat} {om' : Bool} {m : M} (hop : C.getD 5 0 = 6) (h1 : C.getD 6 0 = 0) (hsz : 5 < C.size) (hC : C.getD 2 0 = 0) (h : Fz C text lim ls marks [NS 0 om'] 1 m) :
    ∃ m', m'.outcome = some .failed ∧ Rc (2 * ls + 2) m m' := by
  obtain ⟨start, pc, pos, handed, om, lm, li, sn, rfl⟩ := h
  exact restart_fails hop h1 hsz hC ls 0 _ _ _ _ _ _ _ _ _ (by lia)
theorem gbloop {C : Array Nat} {q skip l : Nat} {om' : Bool} {lm' li' : Int} (h1 : C.getD (q + 1) 0 = skip) (h2 : C.getD (q + 2) 0 = 0) (hl : C.getD (q + 1 + skip) 0 = 16) (hl1 : C.getD (q + 1 + skip + 1) 0 = l) (hsz : q + 1 + skip < C.size) (hw : wt < 1000) :
    ∀ (n p : Nat) (m : M), (∀ j, p ≤ j → j < p + n → j < lim → text.getD j 0 ≠ l) → Fz C text lim ls marks (GB q (p + n) n om' lm' li' :: fr) (wt + 1) m →
      ∃ m', Fz C text lim ls marks fr wt m' ∧ Rc (2 * n + 1) m m' := by
  intro n
  induction n with
  | zero =>
    rintro p m _ ⟨start, pc, pos, handed, om, lm, li, sn, rfl⟩
    exact ⟨_, ⟨_, _, _, _, _, _, _, _, gb_no0⟩, Rc.step rfl rfl⟩
  | succ n ih =>
    rintro p m hj ⟨start, pc, pos, handed, om, lm, li, sn, rfl⟩
    have e1 := gb_noS (C := C) (text := text) (lim := lim) (ls := ls) (start := start) (pc := pc) (pos := pos) (handed := handed) (om := om) (marks := marks) (lm := lm) (li := li) (fr := fr) (wt := wt) (sn := sn) (q := q) (p := p + n) (n := n) (om' := om') (lm' := lm') (li' := li') h1 h2 hw
    obtain ⟨sn2, e2⟩ := lit_no (C := C) (text := text) (lim := lim) (ls := ls) (start := start) (q := q + 1 + skip) (p := p + n) (handed := p + n) (om := om') (marks := marks) (lm := lm') (li := li') (fr := GB q (p + n) n om' lm' li' :: fr) (wt := wt + 1) (sn := sn) hl hl1 hsz (fun h => hj (p + n) (by lia) (by lia) h)
    obtain ⟨m', f', r'⟩ := ih p _ (fun j a b c => hj j a (by lia) c) ⟨_, _, _, _, _, _, _, _, rfl⟩
    exact ⟨m', f', (((Rc.step rfl e1).trans (Rc.step rfl e2)).trans r').mono (by lia)⟩
/-- the start -/
theorem tok_start : ∃ sn, Sre.forSearch tokC text 1 0 (lim + 1) false = MS tokC text (lim + 1) (lim + 1) 0 5 0 0 true (Array.replicate 2 none) (-1) (-1) [NS 0 true] 1 none sn := ⟨_, rfl⟩
theorem val_start : ∃ sn, Sre.forSearch valC text 1 0 (lim + 1) false = MS valC text (lim + 1) (lim + 1) 0 5 0 0 true (Array.replicate 2 none) (-1) (-1) [NS 0 true] 1 none sn := ⟨_, rfl⟩
theorem quo_start : ∃ sn, Sre.forSearch quoC text 1 0 (lim + 3) false = MS quoC text (lim + 3) (max 0 (lim + 3 - (3 - 1))) 0 5 0 0 true (Array.replicate 2 none) (-1) (-1) [NS 0 true] 1 none sn := ⟨_, rfl⟩
theorem val_start0 : ∃ m', m'.outcome = some .failed ∧ Rc 1 (Sre.forSearch valC text 1 0 0 false) m' := ⟨_, rfl, Rc.step rfl rfl⟩
theorem quo_start0 (h : lim < 3) : ∃ m', m'.outcome = some .failed ∧ Rc 1 (Sre.forSearch quoC text 1 0 lim false) m' := by
  match lim, h with
  | 0, _ => exact ⟨_, rfl, Rc.step rfl rfl⟩
  | 1, _ => exact ⟨_, rfl, Rc.step rfl rfl⟩
  | 2, _ => exact ⟨_, rfl, Rc.step rfl rfl⟩
theorem acc_val (c : Nat) (sn : Seen) : ∃ sn', accepts valC 35 c sn = .ok ((if Unicode.isSpace c then false else if c == 59 then false else if c == 44 then false else true), sn') := by
  have e : accepts valC 35 c sn = (do if ← (Except.ok (Unicode.isSpace c) : Except String Bool).map (· != false) then pure (!true, ((sn.add 21).add 8).add (55 + 12)) else
    (if (c == 59) = true then .ok (!true, (((sn.add 21).add 8).add (55 + 12)).add 16) else if (c == 44) = true then .ok (!true, ((((sn.add 21).add 8).add (55 + 12)).add 16).add 16) else .ok (!(!true), (((((sn.add 21).add 8).add (55 + 12)).add 16).add 16).add 0))) := rfl
  rw [e]
  cases Unicode.isSpace c <;> cases (c == 59) <;> cases (c == 44) <;> exact ⟨_, rfl⟩
theorem acc_sp' {C : Array Nat} {i : Nat} (hC : (C = valC ∧ (i = 11 ∨ i = 23)) ∨ (C = quoC ∧ (i = 11 ∨ i = 23)) ∨ (C = tokC ∧ i = 11)) (c : Nat) (sn : Seen) : ∃ sn', accepts C i c sn = .ok (Unicode.isSpace c, sn') := by
  have e : accepts C i c sn = (do if ← (Except.ok (Unicode.isSpace c) : Except String Bool).map (· != false) then pure (true, (sn.add 8).add (55 + 12)) else .ok (!true, ((sn.add 8).add (55 + 12)).add 0)) := by
    rcases hC with ⟨rfl, rfl | rfl⟩ | ⟨rfl, rfl | rfl⟩ | ⟨rfl, rfl⟩ <;> rfl
  rw [e]
  cases Unicode.isSpace c <;> exact ⟨_, rfl⟩
def valP (c : Nat) : Bool := if Unicode.isSpace c then false else if c == 59 then false else if c == 44 then false else true
/-- what a match gives -/
structure Hit (m : M) (e b1 e1 : Nat) : Prop where
  out : m.outcome = some .matched
  start : m.start = 0
  handed : m.handed = e
  marks : m.marks = #[some b1, some e1]
  lastmark : m.lastmark = 1
  lastindex : m.lastindex = 1
theorem tok_match {n0 n1 : Nat} (hl : lim + 1 ≤ 4294967295) (h0 : cnt Unicode.isSpace text (lim + 1) 0 = n0) (h1 : cnt tokP text (lim + 1 - n0) n0 = n1) (hn : 1 ≤ n1) :
    ∃ m', Hit m' (n0 + n1) n0 (n0 + n1) ∧ Rc 10 (Sre.forSearch tokC text 1 0 (lim + 1) false) m' := by
  have hle : n0 ≤ lim + 1 := h0 ▸ cnt_le
  obtain ⟨s0, e0⟩ := tok_start (text := text) (lim := lim)
  obtain ⟨s1, e1⟩ := at_ok (C := tokC) (q := 5) (text := text) (lim := lim + 1) (ls := lim + 1) (start := 0) (handed := 0) (om := true) (marks := Array.replicate 2 none) (lm := -1) (li := -1) (fr := [NS 0 true]) (wt := 1) (sn := s0) rfl rfl (by decide)
  obtain ⟨s2, e2⟩ := rep_step (C := tokC) (q := 7) (p := 0) (text := text) (lim := lim + 1) (ls := lim + 1) (start := 0) (handed := 0) (om := true) (marks := Array.replicate 2 none) (lm := -1) (li := -1) (fr := [NS 0 true]) (wt := 1) (sn := s1) (skip := 9) (least := 0) (P := Unicode.isSpace) rfl rfl rfl rfl (by decide) (acc_sp' (.inr (.inr ⟨rfl, rfl⟩))) (by lia) hl (by lia) (by lia)
  simp only [Nat.sub_zero, Nat.zero_add, h0] at e2
  obtain ⟨s3, e3⟩ := mark0_step (C := tokC) (q := 17) (p := n0) (text := text) (lim := lim + 1) (ls := lim + 1) (start := 0) (handed := n0) (om := true) (marks := Array.replicate 2 none) (li := -1) (fr := [GB 7 n0 n0 true (-1) (-1), NS 0 true]) (wt := 2) (sn := s2) rfl rfl (by decide)
  obtain ⟨s4, e4⟩ := rep_step (C := tokC) (q := 19) (p := n0) (text := text) (lim := lim + 1) (ls := lim + 1) (start := 0) (handed := n0) (om := true) (marks := (Array.replicate 2 none).setIfInBounds 0 (some n0)) (lm := 0) (li := -1) (fr := [GB 7 n0 n0 true (-1) (-1), NS 0 true]) (wt := 2) (sn := s3) (skip := 19) (least := 1) (P := tokP) rfl rfl rfl rfl (by decide) acc_tok hle hl (by lia) (by lia)
  simp only [h1] at e4
  obtain ⟨s5, e5⟩ := mark1_step (C := tokC) (q := 39) (p := n0 + n1) (text := text) (lim := lim + 1) (ls := lim + 1) (start := 0) (handed := n0 + n1) (om := true) (marks := (Array.replicate 2 none).setIfInBounds 0 (some n0)) (li := -1) (fr := [GB 19 (n0 + n1) n1 true 0 (-1), GB 7 n0 n0 true (-1) (-1), NS 0 true]) (wt := 3) (sn := s4) rfl rfl (by decide)
  obtain ⟨s6, e6⟩ := succ_step (C := tokC) (q := 41) (p := n0 + n1) (text := text) (lim := lim + 1) (ls := lim + 1) (start := 0) (handed := n0 + n1) (om := true) (marks := ((Array.replicate 2 none).setIfInBounds 0 (some n0)).setIfInBounds 1 (some (n0 + n1))) (lm := 1) (li := 1) (fr := [GB 19 (n0 + n1) n1 true 0 (-1), GB 7 n0 n0 true (-1) (-1), NS 0 true]) (wt := 3) (sn := s5) rfl (by decide)
  rw [e0]
  refine ⟨_, ?_, ((((((((((Rc.step rfl e1).trans (Rc.step rfl e2)).trans (Rc.step rfl e3)).trans (Rc.step rfl e4)).trans (Rc.step rfl e5)).trans (Rc.step rfl e6)).trans (Rc.step rfl gb_yes)).trans (Rc.step rfl gb_yes)).trans (Rc.step rfl ns_yes)).trans (Rc.step rfl rfl))⟩
  exact ⟨rfl, rfl, rfl, rfl, rfl, rfl⟩
theorem tok_no (hl : lim + 1 ≤ 4294967295) (h0 : cnt Unicode.isSpace text (lim + 1) 0 = 0) (h1 : cnt tokP text (lim + 1) 0 = 0) :
    ∃ m', m'.outcome = some .failed ∧ Rc (2 * lim + 20) (Sre.forSearch tokC text 1 0 (lim + 1) false) m' := by
  obtain ⟨s0, e0⟩ := tok_start (text := text) (lim := lim)
  obtain ⟨s1, e1⟩ := at_ok (C := tokC) (q := 5) (text := text) (lim := lim + 1) (ls := lim + 1) (start := 0) (handed := 0) (om := true) (marks := Array.replicate 2 none) (lm := -1) (li := -1) (fr := [NS 0 true]) (wt := 1) (sn := s0) rfl rfl (by decide)
  obtain ⟨s2, e2⟩ := rep_step (C := tokC) (q := 7) (p := 0) (text := text) (lim := lim + 1) (ls := lim + 1) (start := 0) (handed := 0) (om := true) (marks := Array.replicate 2 none) (lm := -1) (li := -1) (fr := [NS 0 true]) (wt := 1) (sn := s1) (skip := 9) (least := 0) (P := Unicode.isSpace) rfl rfl rfl rfl (by decide) (acc_sp' (.inr (.inr ⟨rfl, rfl⟩))) (by lia) hl (by lia) (by lia)
  simp only [Nat.sub_zero, Nat.zero_add, h0] at e2
  obtain ⟨s3, e3⟩ := mark0_step (C := tokC) (q := 17) (p := 0) (text := text) (lim := lim + 1) (ls := lim + 1) (start := 0) (handed := 0) (om := true) (marks := Array.replicate 2 none) (li := -1) (fr := [GB 7 0 0 true (-1) (-1), NS 0 true]) (wt := 2) (sn := s2) rfl rfl (by decide)
  obtain ⟨s4, e4⟩ := rep_fail (C := tokC) (q := 19) (p := 0) (text := text) (lim := lim + 1) (ls := lim + 1) (start := 0) (handed := 0) (om := true) (marks := (Array.replicate 2 none).setIfInBounds 0 (some 0)) (lm := 0) (li := -1) (fr := [GB 7 0 0 true (-1) (-1), NS 0 true]) (wt := 2) (sn := s3) (least := 1) (P := tokP) rfl rfl rfl (by decide) acc_tok (by lia) hl (by rw [Nat.sub_zero]; lia)
  obtain ⟨m', ho, r⟩ := fz_restart (C := tokC) (text := text) (lim := lim + 1) (ls := lim + 1) (marks := (Array.replicate 2 none).setIfInBounds 0 (some 0)) (om' := true) rfl rfl (by decide) rfl ⟨_, _, _, _, _, _, _, _, rfl⟩
  rw [e0]
  exact ⟨m', ho, ((((((Rc.step rfl e1).trans (Rc.step rfl e2)).trans (Rc.step rfl e3)).trans (Rc.step rfl e4)).trans (Rc.step rfl gb_no0)).trans r).mono (by lia)⟩
theorem val_match {n1 n2 : Nat} (hl : lim + 1 ≤ 4294967295) (h0 : text.getD 0 0 = 61) (h1 : cnt Unicode.isSpace text lim 1 = n1) (h2 : cnt valP text (lim - n1) (1 + n1) = n2) :
    ∃ m', Hit m' (1 + n1 + n2) (1 + n1) (1 + n1 + n2) ∧ Rc 20 (Sre.forSearch valC text 1 0 (lim + 1) false) m' := by
  have hle : n1 ≤ lim := h1 ▸ cnt_le
  have hsp : Unicode.isSpace 61 = false := by decide +kernel
  have hc0 : cnt Unicode.isSpace text (lim + 1) 0 = 0 := by unfold cnt; rw [h0, hsp]; rfl
  obtain ⟨s0, e0⟩ := val_start (text := text) (lim := lim)
  obtain ⟨s1, e1⟩ := at_ok (C := valC) (q := 5) (text := text) (lim := lim + 1) (ls := lim + 1) (start := 0) (handed := 0) (om := true) (marks := Array.replicate 2 none) (lm := -1) (li := -1) (fr := [NS 0 true]) (wt := 1) (sn := s0) rfl rfl (by decide)
  obtain ⟨s2, e2⟩ := rep_step (C := valC) (q := 7) (p := 0) (text := text) (lim := lim + 1) (ls := lim + 1) (start := 0) (handed := 0) (om := true) (marks := Array.replicate 2 none) (lm := -1) (li := -1) (fr := [NS 0 true]) (wt := 1) (sn := s1) (skip := 9) (least := 0) (P := Unicode.isSpace) rfl rfl rfl rfl (by decide) (acc_sp' (.inl ⟨rfl, .inl rfl⟩)) (by lia) hl (by lia) (by lia)
  simp only [Nat.sub_zero, Nat.zero_add, hc0] at e2
  obtain ⟨s3, e3⟩ := lit_ok (C := valC) (q := 17) (p := 0) (l := 61) (text := text) (lim := lim + 1) (ls := lim + 1) (start := 0) (handed := 0) (om := true) (marks := Array.replicate 2 none) (lm := -1) (li := -1) (fr := [GB 7 0 0 true (-1) (-1), NS 0 true]) (wt := 2) (sn := s2) rfl rfl (by decide) (by lia) h0
  obtain ⟨s4, e4⟩ := rep_step (C := valC) (q := 19) (p := 1) (text := text) (lim := lim + 1) (ls := lim + 1) (start := 0) (handed := 0) (om := true) (marks := Array.replicate 2 none) (lm := -1) (li := -1) (fr := [GB 7 0 0 true (-1) (-1), NS 0 true]) (wt := 2) (sn := s3) (skip := 9) (least := 0) (P := Unicode.isSpace) rfl rfl rfl rfl (by decide) (acc_sp' (.inl ⟨rfl, .inr rfl⟩)) (by lia) hl (by lia) (by lia)
  simp only [Nat.add_sub_cancel, h1] at e4
  obtain ⟨s5, e5⟩ := mark0_step (C := valC) (q := 29) (p := 1 + n1) (text := text) (lim := lim + 1) (ls := lim + 1) (start := 0) (handed := 1 + n1) (om := true) (marks := Array.replicate 2 none) (li := -1) (fr := [GB 19 (1 + n1) n1 true (-1) (-1), GB 7 0 0 true (-1) (-1), NS 0 true]) (wt := 3) (sn := s4) rfl rfl (by decide)
  obtain ⟨s6, e6⟩ := rep_step (C := valC) (q := 31) (p := 1 + n1) (text := text) (lim := lim + 1) (ls := lim + 1) (start := 0) (handed := 1 + n1) (om := true) (marks := (Array.replicate 2 none).setIfInBounds 0 (some (1 + n1))) (lm := 0) (li := -1) (fr := [GB 19 (1 + n1) n1 true (-1) (-1), GB 7 0 0 true (-1) (-1), NS 0 true]) (wt := 3) (sn := s5) (skip := 14) (least := 0) (P := valP) rfl rfl rfl rfl (by decide) acc_val (by lia) hl (by lia) (by lia)
  simp only [show lim + 1 - (1 + n1) = lim - n1 by lia, h2] at e6
  obtain ⟨s7, e7⟩ := mark1_step (C := valC) (q := 46) (p := 1 + n1 + n2) (text := text) (lim := lim + 1) (ls := lim + 1) (start := 0) (handed := 1 + n1 + n2) (om := true) (marks := (Array.replicate 2 none).setIfInBounds 0 (some (1 + n1))) (li := -1) (fr := [GB 31 (1 + n1 + n2) n2 true 0 (-1), GB 19 (1 + n1) n1 true (-1) (-1), GB 7 0 0 true (-1) (-1), NS 0 true]) (wt := 4) (sn := s6) rfl rfl (by decide)
  obtain ⟨s8, e8⟩ := succ_step (C := valC) (q := 48) (p := 1 + n1 + n2) (text := text) (lim := lim + 1) (ls := lim + 1) (start := 0) (handed := 1 + n1 + n2) (om := true) (marks := ((Array.replicate 2 none).setIfInBounds 0 (some (1 + n1))).setIfInBounds 1 (some (1 + n1 + n2))) (lm := 1) (li := 1) (fr := [GB 31 (1 + n1 + n2) n2 true 0 (-1), GB 19 (1 + n1) n1 true (-1) (-1), GB 7 0 0 true (-1) (-1), NS 0 true]) (wt := 4) (sn := s7) rfl (by decide)
  rw [e0]
  refine ⟨_, ?_, ((((((((((((((Rc.step rfl e1).trans (Rc.step rfl e2)).trans (Rc.step rfl e3)).trans (Rc.step rfl e4)).trans (Rc.step rfl e5)).trans (Rc.step rfl e6)).trans (Rc.step rfl e7)).trans (Rc.step rfl e8)).trans (Rc.step rfl gb_yes)).trans (Rc.step rfl gb_yes)).trans (Rc.step rfl gb_yes)).trans (Rc.step rfl ns_yes)).trans (Rc.step rfl rfl))).mono (by lia)⟩
  exact ⟨rfl, rfl, rfl, rfl, rfl, rfl⟩
theorem val_no {n0 : Nat} (hl : lim + 1 ≤ 4294967295) (h0 : cnt Unicode.isSpace text (lim + 1) 0 = n0) (hj : ∀ j, j ≤ n0 → j < lim + 1 → text.getD j 0 ≠ 61) :
    ∃ m', m'.outcome = some .failed ∧ Rc (4 * lim + 40) (Sre.forSearch valC text 1 0 (lim + 1) false) m' := by
  have hle : n0 ≤ lim + 1 := h0 ▸ cnt_le
  obtain ⟨s0, e0⟩ := val_start (text := text) (lim := lim)
  obtain ⟨s1, e1⟩ := at_ok (C := valC) (q := 5) (text := text) (lim := lim + 1) (ls := lim + 1) (start := 0) (handed := 0) (om := true) (marks := Array.replicate 2 none) (lm := -1) (li := -1) (fr := [NS 0 true]) (wt := 1) (sn := s0) rfl rfl (by decide)
  obtain ⟨s2, e2⟩ := rep_step (C := valC) (q := 7) (p := 0) (text := text) (lim := lim + 1) (ls := lim + 1) (start := 0) (handed := 0) (om := true) (marks := Array.replicate 2 none) (lm := -1) (li := -1) (fr := [NS 0 true]) (wt := 1) (sn := s1) (skip := 9) (least := 0) (P := Unicode.isSpace) rfl rfl rfl rfl (by decide) (acc_sp' (.inl ⟨rfl, .inl rfl⟩)) (by lia) hl (by lia) (by lia)
  simp only [Nat.sub_zero, Nat.zero_add, h0] at e2
  obtain ⟨s3, e3⟩ := lit_no (C := valC) (q := 17) (p := n0) (l := 61) (text := text) (lim := lim + 1) (ls := lim + 1) (start := 0) (handed := n0) (om := true) (marks := Array.replicate 2 none) (lm := -1) (li := -1) (fr := [GB 7 n0 n0 true (-1) (-1), NS 0 true]) (wt := 2) (sn := s2) rfl rfl (by decide) (fun h => hj n0 (Nat.le_refl _) h)
  obtain ⟨m1, f1, r1⟩ := gbloop (C := valC) (q := 7) (skip := 9) (l := 61) (om' := true) (lm' := -1) (li' := -1) (text := text) (lim := lim + 1) (ls := lim + 1) (marks := Array.replicate 2 none) (fr := [NS 0 true]) (wt := 1) rfl rfl rfl rfl (by decide) (by lia) n0 0 _ (fun j a b d => hj j (by lia) d) ⟨_, _, _, _, _, _, _, _, by rw [Nat.zero_add]⟩
  obtain ⟨m', ho, r⟩ := fz_restart (C := valC) rfl rfl (by decide) rfl f1
  rw [e0]
  exact ⟨m', ho, (((((Rc.step rfl e1).trans (Rc.step rfl e2)).trans (Rc.step rfl e3)).trans r1).trans r).mono (by lia)⟩
theorem quo_no {n0 : Nat} (hl : lim + 3 ≤ 4294967295) (h0 : cnt Unicode.isSpace text (lim + 3) 0 = n0) (hj : ∀ j, j ≤ n0 → j < lim + 3 → text.getD j 0 ≠ 61) :
    ∃ m', m'.outcome = some .failed ∧ Rc (4 * lim + 60) (Sre.forSearch quoC text 1 0 (lim + 3) false) m' := by
  have hle : n0 ≤ lim + 3 := h0 ▸ cnt_le
  obtain ⟨s0, e0⟩ := quo_start (text := text) (lim := lim)
  obtain ⟨s1, e1⟩ := at_ok (C := quoC) (q := 5) (text := text) (lim := lim + 3) (ls := (max 0 (lim + 3 - (3 - 1)))) (start := 0) (handed := 0) (om := true) (marks := Array.replicate 2 none) (lm := -1) (li := -1) (fr := [NS 0 true]) (wt := 1) (sn := s0) rfl rfl (by decide)
  obtain ⟨s2, e2⟩ := rep_step (C := quoC) (q := 7) (p := 0) (text := text) (lim := lim + 3) (ls := (max 0 (lim + 3 - (3 - 1)))) (start := 0) (handed := 0) (om := true) (marks := Array.replicate 2 none) (lm := -1) (li := -1) (fr := [NS 0 true]) (wt := 1) (sn := s1) (skip := 9) (least := 0) (P := Unicode.isSpace) rfl rfl rfl rfl (by decide) (acc_sp' (.inr (.inl ⟨rfl, .inl rfl⟩))) (by lia) hl (by lia) (by lia)
  simp only [Nat.sub_zero, Nat.zero_add, h0] at e2
  obtain ⟨s3, e3⟩ := lit_no (C := quoC) (q := 17) (p := n0) (l := 61) (text := text) (lim := lim + 3) (ls := (max 0 (lim + 3 - (3 - 1)))) (start := 0) (handed := n0) (om := true) (marks := Array.replicate 2 none) (lm := -1) (li := -1) (fr := [GB 7 n0 n0 true (-1) (-1), NS 0 true]) (wt := 2) (sn := s2) rfl rfl (by decide) (fun h => hj n0 (Nat.le_refl _) h)
  obtain ⟨m1, f1, r1⟩ := gbloop (C := quoC) (q := 7) (skip := 9) (l := 61) (om' := true) (lm' := -1) (li' := -1) (text := text) (lim := lim + 3) (ls := (max 0 (lim + 3 - (3 - 1)))) (marks := Array.replicate 2 none) (fr := [NS 0 true]) (wt := 1) rfl rfl rfl rfl (by decide) (by lia) n0 0 _ (fun j a b d => hj j (by lia) d) ⟨_, _, _, _, _, _, _, _, by rw [Nat.zero_add]⟩
  obtain ⟨m', ho, r⟩ := fz_restart (C := quoC) rfl rfl (by decide) rfl f1
  rw [e0]
  exact ⟨m', ho, (((((Rc.step rfl e1).trans (Rc.step rfl e2)).trans (Rc.step rfl e3)).trans r1).trans r).mono (by lia)⟩
theorem quo_no2 (hl : lim + 3 ≤ 4294967295) (h0 : text.getD 0 0 = 61) (hj : ∀ j, j < lim + 3 → text.getD j 0 ≠ 34) :
    ∃ m', m'.outcome = some .failed ∧ Rc (4 * lim + 60) (Sre.forSearch quoC text 1 0 (lim + 3) false) m' := by
  have hsp : Unicode.isSpace 61 = false := by decide +kernel
  have hc0 : cnt Unicode.isSpace text (lim + 3) 0 = 0 := by unfold cnt; rw [h0, hsp]; rfl
  obtain ⟨n1, h1⟩ : ∃ n1, cnt Unicode.isSpace text (lim + 2) 1 = n1 := ⟨_, rfl⟩
  have hle : n1 ≤ lim + 2 := h1 ▸ cnt_le
  obtain ⟨s0, e0⟩ := quo_start (text := text) (lim := lim)
  obtain ⟨s1, e1⟩ := at_ok (C := quoC) (q := 5) (text := text) (lim := lim + 3) (ls := (max 0 (lim + 3 - (3 - 1)))) (start := 0) (handed := 0) (om := true) (marks := Array.replicate 2 none) (lm := -1) (li := -1) (fr := [NS 0 true]) (wt := 1) (sn := s0) rfl rfl (by decide)
  obtain ⟨s2, e2⟩ := rep_step (C := quoC) (q := 7) (p := 0) (text := text) (lim := lim + 3) (ls := (max 0 (lim + 3 - (3 - 1)))) (start := 0) (handed := 0) (om := true) (marks := Array.replicate 2 none) (lm := -1) (li := -1) (fr := [NS 0 true]) (wt := 1) (sn := s1) (skip := 9) (least := 0) (P := Unicode.isSpace) rfl rfl rfl rfl (by decide) (acc_sp' (.inr (.inl ⟨rfl, .inl rfl⟩))) (by lia) hl (by lia) (by lia)
  simp only [Nat.sub_zero, Nat.zero_add, hc0] at e2
  obtain ⟨s3, e3⟩ := lit_ok (C := quoC) (q := 17) (p := 0) (l := 61) (text := text) (lim := lim + 3) (ls := (max 0 (lim + 3 - (3 - 1)))) (start := 0) (handed := 0) (om := true) (marks := Array.replicate 2 none) (lm := -1) (li := -1) (fr := [GB 7 0 0 true (-1) (-1), NS 0 true]) (wt := 2) (sn := s2) rfl rfl (by decide) (by lia) h0
  obtain ⟨s4, e4⟩ := rep_step (C := quoC) (q := 19) (p := 1) (text := text) (lim := lim + 3) (ls := (max 0 (lim + 3 - (3 - 1)))) (start := 0) (handed := 0) (om := true) (marks := Array.replicate 2 none) (lm := -1) (li := -1) (fr := [GB 7 0 0 true (-1) (-1), NS 0 true]) (wt := 2) (sn := s3) (skip := 9) (least := 0) (P := Unicode.isSpace) rfl rfl rfl rfl (by decide) (acc_sp' (.inr (.inl ⟨rfl, .inr rfl⟩))) (by lia) hl (by lia) (by lia)
  simp only [show lim + 3 - 1 = lim + 2 by lia, h1] at e4
  obtain ⟨s5, e5⟩ := lit_no (C := quoC) (q := 29) (p := 1 + n1) (l := 34) (text := text) (lim := lim + 3) (ls := (max 0 (lim + 3 - (3 - 1)))) (start := 0) (handed := 1 + n1) (om := true) (marks := Array.replicate 2 none) (lm := -1) (li := -1) (fr := [GB 19 (1 + n1) n1 true (-1) (-1), GB 7 0 0 true (-1) (-1), NS 0 true]) (wt := 3) (sn := s4) rfl rfl (by decide) (fun h => hj _ h)
  obtain ⟨m1, f1, r1⟩ := gbloop (C := quoC) (q := 19) (skip := 9) (l := 34) (om' := true) (lm' := -1) (li' := -1) (text := text) (lim := lim + 3) (ls := (max 0 (lim + 3 - (3 - 1)))) (marks := Array.replicate 2 none) (fr := [GB 7 0 0 true (-1) (-1), NS 0 true]) (wt := 2) rfl rfl rfl rfl (by decide) (by lia) n1 1 _ (fun j a b d => hj j d) ⟨_, _, _, _, _, _, _, _, rfl⟩
  obtain ⟨m2, f2, r2⟩ := gbloop (C := quoC) (q := 7) (skip := 9) (l := 61) (om' := true) (lm' := -1) (li' := -1) (text := text) (lim := lim + 3) (ls := (max 0 (lim + 3 - (3 - 1)))) (marks := Array.replicate 2 none) (fr := [NS 0 true]) (wt := 1) rfl rfl rfl rfl (by decide) (by lia) 0 0 m1 (fun j a b d => by lia) f1
  obtain ⟨m', ho, r⟩ := fz_restart (C := quoC) rfl rfl (by decide) rfl f2
  rw [e0]
  exact ⟨m', ho, ((((((((Rc.step rfl e1).trans (Rc.step rfl e2)).trans (Rc.step rfl e3)).trans (Rc.step rfl e4)).trans (Rc.step rfl e5)).trans r1).trans r2).trans r).mono (by lia)⟩
end
end Mine
end
section
open PySem PySem.W PyProof.Rows
namespace Mine
set_option maxRecDepth 100000 in
set_option maxHeartbeats 8000000 in
open_top hd for PySem.Challenge.rw_oy0125_01
end Mine
end
section
open PySem PySem.W PySem.Calls PyProof.Rows
namespace Mine
abbrev prg : Program := PySem.Challenge.rw_oy0125_01.row.prog
abbrev Keeps (h h' : Heap) : Prop := ∀ b o, h.get? b = some o → h'.get? b = some o
theorem Keeps.rfl {h : Heap} : Keeps h h := fun _ _ e => e
theorem Keeps.trans {h h' h'' : Heap} (a : Keeps h h') (b : Keeps h' h'') : Keeps h h'' := fun x o e => b x o (a x o e)

/-- the top's facts at a heap -/
structure Kn (w : World) (h : Heap) : Prop where
  X : (Mine.hd.heap_39 w.params).In h
  T : ∃ p loose mg mb, TopRead p loose mg mb h
theorem Kn.keeps {w : World} {h h' : Heap} (k : Kn w h) (hk : Keeps h h') : Kn w h' :=
  ⟨k.X.keeps hk, let ⟨p, l, g, b, T⟩ := k.T; ⟨p, l, g, b, T.keeps hk⟩⟩
theorem fill : PySem.Challenge.rw_oy0125_01 = PySem.Challenge.rw_oy0125_01 ∧ Mine.hd.heap_39 = Mine.hd.heap_39 := by
  k_fill
  exact ⟨rfl, rfl⟩
theorem Kn.of {w : World} {h₀ h : Heap} {L : Addr} {m : Str → Option Value} {p : Program} {loose : List Str} {mg mb : Str → Option Value} (F : Fr h₀ L h m) (X : (Mine.hd.heap_39 w.params).In h₀) (T : TopRead p loose mg mb h₀) : Kn w h :=
  ⟨X.keeps F.keep, p, loose, mg, mb, T.keeps F.keep⟩

theorem Fr.mono {h₀ h h' : Heap} {L : Addr} {m : Str → Option Value} (F : Fr h₀ L h m) (k : Keeps h h') : Fr h₀ L h' m :=
  ⟨F.ns.keeps k, fun b o e => k b o (F.keep b o e), F.above⟩
theorem News.mono {h₀ h h' : Heap} {L : Addr} {news : List (Addr × Obj)} (N : News h₀ L h news) (k : Keeps h h') : News h₀ L h' news :=
  fun p hp => ⟨k _ _ (N p hp).1, (N p hp).2⟩

/-- room: a level's A -/
abbrev LA (k : Nat) : Around := { handled := none, depth := 900 - 10 * k, frames := none, guards := some [], units := 9000 - 100 * k }
structure Lo (k : Nat) (A : Around) : Prop where
  handled : A.handled = none
  guards : A.guards = some []
  depth : A.depth ≤ 900 - 10 * k
  units : A.units ≤ 9000 - 100 * k
theorem Lo.weak {α : Type} {M : Model} {k : Nat} {A : Around} {t : Sem α} {Q : α → Shared → Prop} {E : Value → Shared → Prop} {s : Shared} (lo : Lo k A) (h : wpAny M (LA k) t Q E s) : wpAny M A t Q E s :=
  fun Γ p hΓ => h Γ p ⟨hΓ.1.trans lo.handled, Nat.le_trans hΓ.2.1 lo.depth, (fun _ e => nomatch e), (fun g hg => hΓ.2.2.2.1 g (lo.guards.trans hg)), Nat.le_trans hΓ.2.2.2.2 lo.units⟩

/-- the contract of a def that is pure from outside -/
def PureC (w : World) (k : Nat) (f : Addr) (args : List Value) (kw : List (Str × Value)) (Pre : Heap → Prop) (Out : Heap → Heap → Value → Prop) : Prop :=
  ∀ (A : Around) (s : Shared) (Q E : Value → Shared → Prop), Kn w s.heap → Lo k A → Pre s.heap →
    (∀ v h' tk, Keeps s.heap h' → Out s.heap h' v → Q v { s with heap := h', toks := tk }) → wpAny (model prg w) A (call (.ref f) args kw) Q E s

theorem PureC.use {w : World} {k : Nat} {f : Addr} {args : List Value} {kw : List (Str × Value)} {Pre : Heap → Prop} {Out : Heap → Heap → Value → Prop} {A : Around} {s : Shared} {Q E : Value → Shared → Prop}
    {h₀ : Heap} {L : Addr} {m : Str → Option Value} {news : List (Addr × Obj)} {p : Program} {loose : List Str} {mg mb : Str → Option Value}
    (C : PureC w k f args kw Pre Out) (F : Fr h₀ L s.heap m) (N : News h₀ L s.heap news) (X : (Mine.hd.heap_39 w.params).In h₀) (T : TopRead p loose mg mb h₀) (lo : Lo k A) (pre : Pre s.heap)
    (ret : ∀ v h' tk, Fr h₀ L h' m → News h₀ L h' news → Keeps s.heap h' → Out s.heap h' v → Q v { s with heap := h', toks := tk }) :
    wpAny (model prg w) A (call (.ref f) args kw) Q E s :=
  C A s Q E (Kn.of F X T) lo pre fun v h' tk hk ho => ret v h' tk (Fr.mono F hk) (News.mono N hk) hk ho

def Done (s : Shared) (Out : Heap → Heap → Value → Prop) (v : Value) (s' : Shared) : Prop :=
  ∃ h' tk, s' = { s with heap := h', toks := tk } ∧ Keeps s.heap h' ∧ Out s.heap h' v
theorem Done.intro {s : Shared} {Out : Heap → Heap → Value → Prop} {v : Value} {L : Addr} {h' : Heap} {m : Str → Option Value} {tk : Nat} (F : Fr s.heap L h' m) (o : Out s.heap h' v) : Done s Out v { s with heap := h', toks := tk } :=
  ⟨h', tk, rfl, F.keep, o⟩

theorem enterP {w : World} {k : Nat} {Pre : Heap → Prop} {Out : Heap → Heap → Value → Prop} {name qual : Str} {params : Arguments} {body : List Stmt} {scope : Scope} {dV kV doc pm cdv ct oc : Value} {an od : Option Addr} {osl : Array (Option Value)} {f : Addr} {pos : List Value} {kw : List (Str × Value)} (binds : List (Str × Value))
    (ho : (Mine.hd.heap_39 w.params).lookup f = some ⟨oc, od, .func (fnOf name qual params body scope dV kV doc pm an cdv ct), osl⟩) (hcd : codeIn (Mine.hd.heap_39 w.params) cdv qual = true) (hroom : (LA k).depth < recursionLimit)
    (hbind : ∀ s, Kn w s.heap → BindsTo s (fnOf name qual params body scope dV kV doc pm an cdv ct) ⟨pos, kw⟩ binds) (hloc : ∀ y ∈ binds, scope.names.lookup y.1 = some .local)
    (h : ∀ (s : Shared) p loose mg mb L' h₁ tk, Pre s.heap → Fr s.heap L' h₁ (fun y => binds.reverse.lookup y) → News s.heap L' h₁ [] → (Mine.hd.heap_39 w.params).In s.heap → TopRead p loose mg mb s.heap → ∀ P : Value → Shared → Prop, (∀ v s', Done s Out v s' → P v s') →
      wpAny (model prg w) ((LA k).deeper (envOf qual scope L' f cdv)) (execs body (envOf qual scope L' f cdv))
        (fun fl s' => P (match fl with | .ret v => v | _ => .none) s') (fun _ _ => False)
        { s with heap := h₁, toks := tk })
    (hco : scope.isCoroutine = false) (hgen : scope.isGenerator = false) (hk : scope.kind = .function)
    (hcell : ∀ x ∈ scope.names, x.2 ≠ .cell) : PureC w k f pos kw Pre Out := by
  intro A s Q E kn lo pre ret
  refine lo.weak ?_
  have hb := hbind s kn
  obtain ⟨X, p, loose, mg, mb, T⟩ := kn
  refine wpAny_call ?_
  refine codeAny_call_def (fd := fnOf name qual params body scope dV kV doc pm an cdv ct) (body := body) (binds := binds) hroom (X _ _ ho) rfl T.nolimit (codeRec_of X hcd) rfl hb hcell hloc (fun h₁ hns hk₁ => ?_) hco hgen hk
  refine wpAny_mono (h s p loose mg mb _ h₁ _ pre ⟨hns, hk₁, Nat.le_refl _⟩ News.nil X T _ fun _ _ d => d) (fun fl s' hl => ?_) fun _ _ y => y.elim
  obtain ⟨h', tk, rfl, hk, ho⟩ := hl
  exact ret _ h' tk hk ho

/-- the state's token is any -/
theorem dropT {α : Type} {M : Model} {A : Around} {t : Sem α} {Q : α → Shared → Prop} {E : Value → Shared → Prop} {h : Heap} {g d k o} (H : ∀ k, wpAny M A t Q E ⟨h, g, d, k, o⟩) : wpAny M A t Q E ⟨h, g, d, k, o⟩ := H k
end Mine
end
section
open PySem PySem.W PySem.Calls PyProof.Rows
namespace Mine
theorem Fr.known {h₀ h : Heap} {L : Addr} {m : Str → Option Value} (F : Fr h₀ L h m) (ps : List (Str × Value)) (hk : ∀ p ∈ ps, m p.1 = some p.2) : Fr h₀ L h (kstB m ps) := by
  have e : kstB m ps = m := funext fun z => kstB_eq hk fun _ => rfl
  rw [e]; exact F
theorem Fr.knownIf {h₀ h : Heap} {L : Addr} {x : Str} {v : Value} {m : Str → Option Value} (F : Fr h₀ L h (fun y => if y = x then some v else m y)) (ps : List (Str × Value)) (hk : ∀ p ∈ ps, m p.1 = some p.2) : Fr h₀ L h (fun y => if y = x then some v else kstB m ps y) := by
  have e : kstB m ps = m := funext fun z => kstB_eq hk fun _ => rfl
  rw [e]; exact F
section
variable {prog : Program} {w : World} {A : Around} {E : Value → Shared → Prop} {s : Shared} {env : Env} {h₀ : Heap} {x : Str} {body : List Stmt} {Q : Flow → Shared → Prop} {m₀ : Str → Option Value} {news : List (Addr × Obj)}

theorem loopG {I : Addr} {fp wr : List Addr} {n : Nat} {P : Nat → Value → Prop} {St : Nat → Heap → Prop} (J : Nat → (Str → Option Value) → List (Addr × Obj) → Prop)
    (W : Walks prog w A I fp wr n P St) (hLf : env.locals ∉ fp) (hwr : ∀ b ∈ wr, h₀.get? b = none) (hpres : ∀ i h, St i h → ∀ b ∈ fp, h₀.get? b = none → ∃ o, h.get? b = some o) (hnf : ∀ p ∈ news, p.1 ∉ fp)
    (hst : St 0 s.heap) (F : Fr h₀ env.locals s.heap m₀) (N : News h₀ env.locals s.heap news) (hj : J 0 m₀ news)
    (turn : ∀ i v m₁ nx h tk own, i < n → P i v → (∀ b ∈ fp, h₀.get? b = none → ∃ o, (b, o) ∈ own) → OwnOff own (nx.map (·.1)) → J i m₁ nx → Fr h₀ env.locals h (fun y => if y = x then some v else m₁ y) → News h₀ env.locals h (nx ++ own) →
      wpAny (model prog w) A (execs body env) (InvPostG h₀ env.locals (J (i + 1)) own { s with heap := h, toks := tk } Q) E { s with heap := h, toks := tk })
    (done : ∀ m₁ nx h tk, J n m₁ nx → Fr h₀ env.locals h m₁ → News h₀ env.locals h nx → Q .next { s with heap := h, toks := tk }) :
    LoopAtV prog w A h₀ env x body Q E (.ref I) s := by
  refine ⟨I, fp, wr, n, P, St, m₀, news, (fun i m nx => J i m nx ∧ ∀ p ∈ nx, p.1 ∉ fp), rfl, W, hLf, hwr, (fun p hp hq => hnf p hp (W.sub _ hq)), hst, F, N, ⟨hj, hnf⟩, ?_, ?_⟩
  · rintro i v m₁ nx s₁ own ⟨hh', tk', rfl⟩ hin hP ⟨hJ, hnx⟩ hoff hown hget hfp hst' F₁ N₁
    have hcov : ∀ b ∈ fp, h₀.get? b = none → ∃ o, (b, o) ∈ own := fun b hb hn => by
      obtain ⟨o, ho⟩ := hpres _ _ hst' b hb hn
      exact ⟨o, hfp b hb hn o ho⟩
    have hsep : OwnOff own (nx.map (·.1)) := by
      intro p hp b hb e
      obtain ⟨q, hq, rfl⟩ := List.mem_map.mp hb
      exact hnx q hq (e ▸ hown p hp)
    have N₂ : News h₀ env.locals hh' (nx ++ own) := fun p hp => N₁ p ((List.mem_append.mp hp).elim (fun h => List.mem_append.mpr (.inr h)) fun h => List.mem_append.mpr (.inl h))
    refine wpAny_mono (turn i v m₁ nx hh' tk' own hin hP hcov hsep hJ F₁ N₂) (fun f s₂ p => ?_) fun _ _ e => e
    have fin : InvEndG h₀ env.locals (J (i + 1)) own { s with heap := hh', toks := tk' } s₂ → LoopStepU h₀ env.locals wr own (fun m nx => J (i + 1) m nx ∧ ∀ p ∈ nx, p.1 ∉ fp) { s with heap := hh', toks := tk' } .next s₂ := by
      rintro ⟨h', tk, m', news', nx', e, F', N', hn, ho, ha, hm⟩
      have hnf' : ∀ p ∈ nx', p.1 ∉ fp := fun p hp hq => by
        obtain ⟨o, ho'⟩ := hcov p.1 hq (N' p (hn p hp)).2.2
        exact ha _ ho' p.1 (List.mem_map.mpr ⟨p, hp, rfl⟩) rfl
      exact ⟨rfl, h', tk, m', nx', e, F', (fun p hp => N' p ((List.mem_append.mp hp).elim (ho p) (hn p))), (fun p hp hq => hnf' p hp (W.sub _ hq)), hm, hnf'⟩
    cases f with
    | ret v => exact .ret p
    | brk => exact .brk p
    | next => exact .next (fin p)
    | cont => exact .cont (fin p)
  · rintro h' tk m' news' F' N' _ ⟨hJ, _⟩
    exact done m' news' h' tk hJ F' N'

/-- for x in bytes -/
theorem loop_bytes {b : Array UInt8} {tb : Tok} (J : Nat → (Str → Option Value) → List (Addr × Obj) → Prop)
    (hh : A.handled = none) (F : Fr h₀ env.locals s.heap m₀) (N : News h₀ env.locals s.heap news) (hj : J 0 m₀ news)
    (turn : ∀ i (c : UInt8) u m₁ nx h tk own, b[i]? = some c → OwnOff own (nx.map (·.1)) → J i m₁ nx → Fr h₀ env.locals h (fun y => if y = x then some (.int (c.toNat : Int) u) else m₁ y) → News h₀ env.locals h (nx ++ own) →
      wpAny (model prog w) A (execs body env) (InvPostG h₀ env.locals (J (i + 1)) own { s with heap := h, toks := tk } Q) E { s with heap := h, toks := tk })
    (done : ∀ m₁ nx h tk, J b.size m₁ nx → Fr h₀ env.locals h m₁ → News h₀ env.locals h nx → Q .next { s with heap := h, toks := tk }) :
    wpAny (model prog w) A (pyIter (.bytes b tb)) (fun it s₂ => LoopAtV prog w A h₀ env x body Q E it s₂) E s := by
  refine KBw.pyIter_bytes ?_
  refine loopG J (KBw.walks hh s.heap.objs.size b tb) ?_ ?_ ?_ ?_ ⟨_, Heap.get?_push_size _ rfl, rfl, rfl⟩ (F.push _) (fun p hp => ⟨Heap.get?_push_of_some _ (N p hp).1, (N p hp).2⟩) hj ?_ done
  · intro hm; exact absurd F.ns.lt ((List.mem_singleton.mp hm) ▸ Nat.lt_irrefl _)
  · intro b' hb; rw [List.mem_singleton.mp hb]; exact next_is_new F
  · rintro i h ⟨o, ho, _⟩ b' hb _; rw [List.mem_singleton.mp hb]; exact ⟨o, ho⟩
  · intro p hp hI; exact absurd (Heap.lt_size (N p hp).1) ((List.mem_singleton.mp hI) ▸ Nat.lt_irrefl _)
  · rintro i v m₁ nx h tk own hi ⟨c, u, hc, rfl⟩ _ hoff hJ F₁ N₁
    exact turn i c u m₁ nx h tk own hc hoff hJ F₁ N₁

/-- for x in text -/
theorem loop_str {xt : Str} {tb : Tok} (J : Nat → (Str → Option Value) → List (Addr × Obj) → Prop)
    (hh : A.handled = none) (F : Fr h₀ env.locals s.heap m₀) (N : News h₀ env.locals s.heap news) (hj : J 0 m₀ news)
    (turn : ∀ i (c : Nat) u m₁ nx h tk own, xt.cps[i]? = some c → OwnOff own (nx.map (·.1)) → J i m₁ nx → Fr h₀ env.locals h (fun y => if y = x then some (.str ⟨#[c]⟩ u) else m₁ y) → News h₀ env.locals h (nx ++ own) →
      wpAny (model prog w) A (execs body env) (InvPostG h₀ env.locals (J (i + 1)) own { s with heap := h, toks := tk } Q) E { s with heap := h, toks := tk })
    (done : ∀ m₁ nx h tk, J xt.cps.size m₁ nx → Fr h₀ env.locals h m₁ → News h₀ env.locals h nx → Q .next { s with heap := h, toks := tk }) :
    wpAny (model prog w) A (pyIter (.str xt tb)) (fun it s₂ => LoopAtV prog w A h₀ env x body Q E it s₂) E s := by
  have key : ∀ (o : Obj) (St : Nat → Heap → Prop), (∀ i h, St i h → ∃ o, h.get? s.heap.objs.size = some o) → o.isFreed = false → Walks prog w A s.heap.objs.size [s.heap.objs.size] [s.heap.objs.size] xt.cps.size (SignAt xt) St → St 0 (s.heap.push o) →
      LoopAtV prog w A h₀ env x body Q E (.ref s.heap.objs.size) { s with heap := s.heap.push o } := by
    intro o St hpr _ W hst
    refine loopG (s := { s with heap := s.heap.push o }) J W ?_ ?_ ?_ ?_ hst (F.push _) (fun p hp => ⟨Heap.get?_push_of_some _ (N p hp).1, (N p hp).2⟩) hj ?_ done
    · intro hm; exact absurd F.ns.lt ((List.mem_singleton.mp hm) ▸ Nat.lt_irrefl _)
    · intro b' hb; rw [List.mem_singleton.mp hb]; exact next_is_new F
    · rintro i h hs b' hb _; rw [List.mem_singleton.mp hb]; exact hpr i h hs
    · intro p hp hI; exact absurd (Heap.lt_size (N p hp).1) ((List.mem_singleton.mp hI) ▸ Nat.lt_irrefl _)
    · rintro i v m₁ nx h tk own hi ⟨c, u, hc, rfl⟩ _ hoff hJ F₁ N₁
      exact turn i c u m₁ nx h tk own hc hoff hJ F₁ N₁
  cases ha : xt.cps.all (· < 128)
  · exact wpAny_pyIter_wide ha (key _ _ (fun _ _ ⟨o, ho, _⟩ => ⟨o, ho⟩) rfl (Walks.strWide hh _ xt tb) ⟨_, Heap.get?_push_size _ rfl, rfl, rfl⟩)
  · exact wpAny_pyIter_ascii ha (key _ _ (fun _ _ ⟨o, ho, _⟩ => ⟨o, ho⟩) rfl (Walks.strAscii hh _ xt tb) ⟨_, Heap.get?_push_size _ rfl, rfl, rfl⟩)

/-- for x in a list that stands in the heap -/
theorem loop_list {ax : Addr} {items : Array Value} (J : Nat → (Str → Option Value) → List (Addr × Obj) → Prop)
    (hh : A.handled = none) (hl : s.heap.IsList ax items) (hL : ax ≠ env.locals) (F : Fr h₀ env.locals s.heap m₀) (N : News h₀ env.locals s.heap news) (hax : ∀ p ∈ news, p.1 ≠ ax) (hj : J 0 m₀ news)
    (turn : ∀ i v m₁ nx h tk own, items[i]? = some v → OwnOff own (nx.map (·.1)) → J i m₁ nx → Fr h₀ env.locals h (fun y => if y = x then some v else m₁ y) → News h₀ env.locals h (nx ++ own) →
      wpAny (model prog w) A (execs body env) (InvPostG h₀ env.locals (J (i + 1)) own { s with heap := h, toks := tk } Q) E { s with heap := h, toks := tk })
    (done : ∀ m₁ nx h tk, J items.size m₁ nx → Fr h₀ env.locals h m₁ → News h₀ env.locals h nx → Q .next { s with heap := h, toks := tk }) :
    wpAny (model prog w) A (pyIter (.ref ax)) (fun it s₂ => LoopAtV prog w A h₀ env x body Q E it s₂) E s := by
  obtain ⟨ol, hol, _⟩ := id hl
  have hne : ax ≠ s.heap.objs.size := Nat.ne_of_lt (Heap.lt_size hol)
  refine wpAny_pyIter_list hl ?_
  refine loopG (s := { s with heap := _ }) J (Walks.list hh s.heap.objs.size ax hne items) ?_ ?_ ?_ ?_ ⟨⟨_, Heap.get?_push_size _ rfl, rfl, rfl⟩, hl.at fun o e => Heap.get?_push_of_some _ e⟩ (F.push _) (fun p hp => ⟨Heap.get?_push_of_some _ (N p hp).1, (N p hp).2⟩) hj ?_ done
  · intro hm
    rcases List.mem_cons.mp hm with e | hm
    · exact absurd F.ns.lt (e ▸ Nat.lt_irrefl _)
    · exact hL (List.mem_singleton.mp hm).symm
  · intro b' hb; rw [List.mem_singleton.mp hb]; exact next_is_new F
  · rintro i h ⟨⟨o, ho, _⟩, o', ho', _⟩ b' hb _
    rcases List.mem_cons.mp hb with rfl | hm
    · exact ⟨o, ho⟩
    · rw [List.mem_singleton.mp hm]; exact ⟨o', ho'⟩
  · intro p hp hI
    rcases List.mem_cons.mp hI with e | hm
    · exact absurd (Heap.lt_size (N p hp).1) (e ▸ Nat.lt_irrefl _)
    · exact hax p hp (List.mem_singleton.mp hm)
  · rintro i v m₁ nx h tk own hi hP _ hoff hJ F₁ N₁
    exact turn i v m₁ nx h tk own hP hoff hJ F₁ N₁
end
/-- a turn's post, by name -/
theorem genF {M : Model} {A : Around} {t : Sem Flow} {E : Value → Shared → Prop} {s : Shared} {P : Flow → Shared → Prop} (h : ∀ P' : Flow → Shared → Prop, P' = P → wpAny M A t P' E s) : wpAny M A t P E s := h P rfl
theorem genA {β : Type} {M : Model} {A : Around} {t : Sem β} {u : Sem Flow} {E : Value → Shared → Prop} {s : Shared} {P : Flow → Shared → Prop} (h : ∀ P' : Flow → Shared → Prop, P' = P → wpAny M A t (fun _ s' => wpAny M A u P' E s') E s) : wpAny M A t (fun _ s' => wpAny M A u P E s') E s := h P rfl
theorem endP {h₀ : Heap} {L : Addr} {J : (Str → Option Value) → List (Addr × Obj) → Prop} {own : List (Addr × Obj)} {s₁ s₂ : Shared} {Q P : Flow → Shared → Prop} (hP : P = InvPostG h₀ L J own s₁ Q) (h : InvEndG h₀ L J own s₁ s₂) : P .next s₂ := by subst hP; exact h
end Mine
end
section
open PySem PySem.W PySem.Calls PyProof.Rows
set_option maxRecDepth 100000
namespace Mine
open PySem.Sre Builtin Builtin.Re
def tgt (a : Addr) (C : Array Nat) (x : Str) (t : Tok) : ReTarget := { pattern := .ref a, string := .str x t, code := C, text := x.cps, kind := 0, groups := 1, pos := min (0 : Int).toNat x.cps.size, lim := min (2 ^ 63 - 1 : Int).toNat x.cps.size }
theorem tok_target (P : Params) (S : Setting) (x : Str) (t : Tok) : peek (Mine.hd.heap_39 P) S (reTarget "re.Pattern.search" "search" ⟨[.ref 55, .str x t], []⟩) = some (tgt 55 tokC x t) := by kernel_rfl
theorem quo_target (P : Params) (S : Setting) (x : Str) (t : Tok) : peek (Mine.hd.heap_39 P) S (reTarget "re.Pattern.search" "search" ⟨[.ref 60, .str x t], []⟩) = some (tgt 60 quoC x t) := by kernel_rfl
theorem val_target (P : Params) (S : Setting) (x : Str) (t : Tok) : peek (Mine.hd.heap_39 P) S (reTarget "re.Pattern.search" "search" ⟨[.ref 65, .str x t], []⟩) = some (tgt 65 valC x t) := by kernel_rfl

theorem runFor_done {m : M} (h : m.outcome.isSome = true) (n : Nat) : M.runFor n m = m := by
  cases n with
  | zero => rfl
  | succ n => simp [M.runFor, h]
section
variable {prog : Program} {w : World} {M' : Model} {A : Around} {E : Value → Shared → Prop} {s : Shared}
theorem drive_end {m' : M} (ho : m'.outcome.isSome = true) {Q : M → Shared → Prop} (h : Q m' s) : ∀ (turns k : Nat) (m : M), k ≤ 4 * turns → 0 < turns → M.runFor k m = m' → wpAny M' A (reDrive turns m) Q E s
  | 0, _, _, _, hp, _ => absurd hp (Nat.lt_irrefl _)
  | turns + 1, k, m, hk, _, e => by
    unfold reDrive
    dsimp only [reTurnSteps]
    by_cases h4 : (M.runFor 4 m).outcome.isSome = true
    · rw [if_pos h4]
      have e4 : M.runFor 4 m = m' := by
        rcases Nat.le_total k 4 with hk4 | hk4
        · have : M.runFor (k + (4 - k)) m = m' := by rw [runFor_add, e, runFor_done ho]
          rwa [show k + (4 - k) = 4 by lia] at this
        · have : M.runFor (4 + (k - 4)) m = M.runFor 4 m := by rw [runFor_add, runFor_done h4]
          rw [show 4 + (k - 4) = k by lia, e] at this
          exact this.symm
      rw [e4]; exact wpAny_pure h
    · rw [if_neg h4]
      have hk4 : 4 < k := by
        apply Nat.lt_of_not_le
        intro hle
        have : M.runFor (k + (4 - k)) m = m' := by rw [runFor_add, e, runFor_done ho]
        rw [show k + (4 - k) = 4 by lia] at this
        rw [this] at h4; exact h4 ho
      have e4 : M.runFor (k - 4) (M.runFor 4 m) = m' := by rw [← runFor_add, show 4 + (k - 4) = k by lia, e]
      exact wpAny_bind (wpAny_rule (drive_end ho h turns (k - 4) _ (by lia) (by lia) e4))
theorem rules_pass {Q : PUnit → Shared → Prop} {f : Nat → PUnit → Sem (ForInStep PUnit)} (hf : ∀ i u (R : ForInStep PUnit → Shared → Prop), R (.yield ⟨⟩) s → wpAny M' A (f i u) R E s) (h : Q ⟨⟩ s) : ∀ l : List Nat, wpAny M' A (forIn l ⟨⟩ f) Q E s
  | [] => wpAny_pure h
  | i :: l => by
    rw [List.forIn_cons]
    exact wpAny_bind (hf i ⟨⟩ _ (rules_pass hf h l))
theorem run_end {m m' : M} {n : Nat} (r : Rc n m m') (hn : n ≤ 2 ^ 60) (ho : m'.outcome = some .matched) {Q : Option M → Shared → Prop} (h : Q (some m') s) : wpAny M' A (reRunToEnd m) Q E s := by
  obtain ⟨k, hk, e⟩ := r
  unfold reRunToEnd
  refine wpAny_bind (drive_end (m' := m') (by rw [ho]; rfl) ?_ (2 ^ 64) k m (by lia) (by decide) e)
  refine wpAny_bind (rules_pass (fun i u R hR => ?_) ?_ _)
  · split
    · exact wpAny_bind (wpAny_rule (wpAny_pure hR))
    · exact wpAny_pure hR
  · rw [ho]; exact wpAny_pure h
theorem run_fails {m m' : M} {n : Nat} (r : Rc n m m') (hn : n ≤ 2 ^ 60) (ho : m'.outcome = some .failed) {Q : Option M → Shared → Prop} (h : Q none s) : wpAny M' A (reRunToEnd m) Q E s := by
  obtain ⟨k, hk, e⟩ := r
  unfold reRunToEnd
  refine wpAny_bind (drive_end (m' := m') (by rw [ho]; rfl) ?_ (2 ^ 64) k m (by lia) (by decide) e)
  refine wpAny_bind (rules_pass (fun i u R hR => ?_) ?_ _)
  · split
    · exact wpAny_bind (wpAny_rule (wpAny_pure hR))
    · exact wpAny_pure hR
  · rw [ho]; exact wpAny_pure h
abbrev spanObj (e b1 e1 : Nat) : Obj := { cls := .type "tuple", data := .seq #[.int 0 0, .int (e : Int) 0, .int (b1 : Int) 0, .int (e1 : Int) 0] }
abbrev matchObj (x : Str) (t : Tok) (a lim q : Nat) : Obj := { cls := .type "re.Match", data := .fields #[.str x t, .ref a, .int 0 0, .int (lim : Int) 0, .int 1 0, .ref q] }
theorem new_match {x : Str} {t : Tok} {a lim e b1 e1 : Nat} {m : M} (hit : Hit m e b1 e1) (hbe : b1 ≤ e1) {Q : Value → Shared → Prop}
    (h : Q (.ref (s.heap.objs.size + 1)) { s with heap := (s.heap.push (spanObj e b1 e1)).push (matchObj x t a lim s.heap.objs.size) }) : wpAny M' A (reNewMatch (.ref a) (.str x t) 1 0 lim m) Q E s := by
  unfold reNewMatch
  obtain ⟨_, hs, hh, hm, hlm, hli⟩ := hit
  have hr : List.range 1 = [0] := rfl
  simp only [hr, hs, hh, hm, hlm, hli]
  refine wpAny_ite ?_
  rw [if_neg (by
    show ¬ (((decide ((1 : Int) ≤ 1) && decide (e1 < b1)) || false) = true)
    simp; lia)]
  show wpAny _ _ (newTuple [.int 0 0, .int (e : Int) 0, .int (b1 : Int) 0, .int (e1 : Int) 0] >>= fun v => newFields "re.Match" [.str x t, .ref a, .int 0 0, .int (lim : Int) 0, .int 1 0, v]) _ _ _
  refine wpAny_bind ?_
  unfold newTuple
  refine wpAny_newObj_type ?_
  unfold newFields
  refine wpAny_newObj_type ?_
  rw [show ((s.heap.push (spanObj e b1 e1)).objs.size) = s.heap.objs.size + 1 from Heap.size_push ..]
  exact h
theorem ps_slot : Slot "re.Pattern" "search" "re.Pattern.search" :=
  .of (owner := "re.Pattern") (n := "search") (by rw [typeLookup_type, builtinLookup_eq_fast]; kernel_rfl) (by decide +kernel) (by decide +kernel) (by decide +kernel)
    (by first | exact .inl (by decide +kernel) | exact .inr (by decide +kernel)) (by rw [isSubtype_type]; kernel_rfl)
theorem ps_type : typeOf (.builtin "re.Pattern.search") = pure (.type "method_descriptor") := by show builtinType _ = _; rw [builtinType_eq_fast]; kernel_rfl
theorem ps_entry : entryFor table "re.Pattern.search" = some Builtin.«re.Pattern.search» := entryFor_of_tree (by kernel_rfl)
theorem ps_args (a b : Value) : argsOk "re.Pattern.search" ⟨[a, b], []⟩ := by unfold argsOk; kernel_rfl
end
section
variable {w : World} {A : Around} {E : Value → Shared → Prop} {s : Shared} {h₀ : Heap} {L : Addr} {m : Str → Option Value} {news : List (Addr × Obj)}
/-- a pattern of the top -/
structure IsPat (a : Addr) (C : Array Nat) : Prop where
  tgt : ∀ (P : Params) (S : Setting) (x : Str) (t : Tok), peek (Mine.hd.heap_39 P) S (reTarget "re.Pattern.search" "search" ⟨[.ref a, .str x t], []⟩) = some (tgt a C x t)
  obj : ∀ P, ∃ o, (Mine.hd.heap_39 P).lookup a = some o ∧ o.cls = .type "re.Pattern" ∧ o.dict = none
theorem pat_tok : IsPat 55 tokC := ⟨tok_target, fun P => ⟨_, rfl, rfl, rfl⟩⟩
theorem pat_quo : IsPat 60 quoC := ⟨quo_target, fun P => ⟨_, rfl, rfl, rfl⟩⟩
theorem pat_val : IsPat 65 valC := ⟨val_target, fun P => ⟨_, rfl, rfl, rfl⟩⟩
theorem pat_attrs : PlainAttrs "re.Pattern" :=
  ⟨⟨"object.__getattribute__", by rw [typeLookup_type, builtinLookup_eq_fast]; kernel_rfl, by decide +kernel⟩, by rw [typeLookup_type, builtinLookup_eq_fast]; kernel_rfl⟩
theorem gm_search {a : Addr} {C : Array Nat} {pl : Sem Bool} {Q : Value × List Value → Shared → Prop} (I : IsPat a C) (X : (Mine.hd.heap_39 w.params).In s.heap) (h : Q (.builtin "re.Pattern.search", [.ref a]) s) :
    wpAny (model prg w) A (getMethod (.ref a) "search" pl) Q E s := by
  obtain ⟨o, ho, hc, hd⟩ := I.obj w.params
  exact getMethod_builtin ⟨o, X _ _ ho, hc⟩ pat_attrs ps_slot ps_type (fun b e => by cases e; exact ⟨o, X _ _ ho, hd⟩) h
theorem min_size {n : Nat} (h : n ≤ 16777216) : min (2 ^ 63 - 1 : Int).toNat n = n := by
  have : (2 ^ 63 - 1 : Int).toNat = 9223372036854775807 := by decide
  rw [this]; lia
theorem search_hit {a : Addr} {C : Array Nat} {x : Str} {t : Tok} {e b1 e1 n : Nat} {m' : M} {Q : Value → Shared → Prop} (I : IsPat a C) (F : Fr h₀ L s.heap m) (N : News h₀ L s.heap news) (X : (Mine.hd.heap_39 w.params).In h₀)
    (hx : x.cps.size ≤ 16777216) (r : Rc n (Sre.forSearch C x.cps 1 0 x.cps.size false) m') (hn : n ≤ 2 ^ 60) (hit : Hit m' e b1 e1) (hbe : b1 ≤ e1)
    (h : ∀ q1 q2 h', Fr h₀ L h' m → News h₀ L h' ((q2, matchObj x t a x.cps.size q1) :: (q1, spanObj e b1 e1) :: news) → (∀ p ∈ news, p.1 < q1) → q1 < q2 → Q (.ref q2) { s with heap := h' }) :
    wpAny (model prg w) A (call (.builtin "re.Pattern.search") [.ref a, .str x t]) Q E s := by
  obtain ⟨o, ho, hc, hd⟩ := I.obj w.params
  have X' := X.keeps F.keep
  refine wpAny_call (codeAny_call_builtin ps_slot.plain ps_entry (ps_slot.check _ _ _ _ _ _ _ _ ⟨o, X' _ _ ho, hc⟩ (ps_args _ _) ?_))
  unfold Builtin.«re.Pattern.search»
  refine wpAny_bind ((Looks.of_peek X' (I.tgt _ _ x t)).here ?_)
  unfold reAnswer tgt
  simp only [min_size hx]
  show wpAny _ _ (reRunToEnd (Sre.forSearch C x.cps 1 (min (0 : Int).toNat x.cps.size) x.cps.size false) >>= _) _ _ _
  rw [show min (0 : Int).toNat x.cps.size = 0 from Nat.zero_min _]
  refine wpAny_bind (run_end r hn hit.out ?_)
  refine wpAny_bind (new_match (lim := x.cps.size) hit hbe ?_)
  have F1 := F.push (spanObj e b1 e1)
  have N1 := News.push F N (spanObj e b1 e1)
  have F2 := F1.push (matchObj x t a x.cps.size s.heap.objs.size)
  have N2 := News.push F1 N1 (matchObj x t a x.cps.size s.heap.objs.size)
  have es : ((s.heap.push (spanObj e b1 e1)).objs.size) = s.heap.objs.size + 1 := Heap.size_push ..
  rw [es] at N2
  exact wpAny_pure (h _ _ _ F2 N2 (fun p hp => Heap.lt_size (N p hp).1) (Nat.lt_succ_self _))
theorem search_miss {a : Addr} {C : Array Nat} {x : Str} {t : Tok} {n : Nat} {m' : M} {Q : Value → Shared → Prop} (I : IsPat a C) (F : Fr h₀ L s.heap m) (X : (Mine.hd.heap_39 w.params).In h₀)
    (hx : x.cps.size ≤ 16777216) (r : Rc n (Sre.forSearch C x.cps 1 0 x.cps.size false) m') (hn : n ≤ 2 ^ 60) (ho' : m'.outcome = some .failed) (h : Q .none s) :
    wpAny (model prg w) A (call (.builtin "re.Pattern.search") [.ref a, .str x t]) Q E s := by
  obtain ⟨o, ho, hc, hd⟩ := I.obj w.params
  have X' := X.keeps F.keep
  refine wpAny_call (codeAny_call_builtin ps_slot.plain ps_entry (ps_slot.check _ _ _ _ _ _ _ _ ⟨o, X' _ _ ho, hc⟩ (ps_args _ _) ?_))
  unfold Builtin.«re.Pattern.search»
  refine wpAny_bind ((Looks.of_peek X' (I.tgt _ _ x t)).here ?_)
  unfold reAnswer tgt
  simp only [min_size hx]
  show wpAny _ _ (reRunToEnd (Sre.forSearch C x.cps 1 (min (0 : Int).toNat x.cps.size) x.cps.size false) >>= _) _ _ _
  rw [show min (0 : Int).toNat x.cps.size = 0 from Nat.zero_min _]
  exact wpAny_bind (run_fails r hn ho' (wpAny_pure h))
/-- a match's truth -/
theorem noBool_match : typeLookup (.type "re.Match") "__bool__" = pure none := by rw [typeLookup_type, builtinLookup_eq_fast]; kernel_rfl
theorem noLen_match : typeLookup (.type "re.Match") "__len__" = pure none := by rw [typeLookup_type, builtinLookup_eq_fast]; kernel_rfl
theorem truthy_match {x : Str} {t : Tok} {a lim q q1 : Nat} {Q : Bool → Shared → Prop} (N : News h₀ L s.heap news) (hm : (q, matchObj x t a lim q1) ∈ news) (h : Q true s) : wpAny (model prg w) A (truthy (.ref q)) Q E s := by
  have hT : s.TypeIs (.ref q) "re.Match" := ⟨_, (N _ hm).1, rfl⟩
  unfold truthy
  first
    | refine wpAny_bind (wpAny_callSpecial?_none (name := Str.ofString "__bool__") hT noBool_match ?_)
    | refine wpAny_bind (wpAny_pure (wpAny_bind (wpAny_callSpecial?_none (name := Str.ofString "__bool__") hT noBool_match ?_)))
  first
    | refine wpAny_bind (wpAny_specialOf (name := Str.ofString "__len__") hT noLen_match ?_)
    | refine wpAny_bind (wpAny_pure (wpAny_bind (wpAny_specialOf (name := Str.ofString "__len__") hT noLen_match ?_)))
  exact wpAny_pure h
end
end Mine
end
section
open PySem PySem.W PySem.Calls PyProof.Rows
set_option maxRecDepth 100000
namespace Mine
open PySem.Sre Builtin Builtin.Re
theorem mt_attrs : PlainAttrs "re.Match" :=
  ⟨⟨"object.__getattribute__", by rw [typeLookup_type, builtinLookup_eq_fast]; kernel_rfl, by decide +kernel⟩, by rw [typeLookup_type, builtinLookup_eq_fast]; kernel_rfl⟩
theorem sp_slot : Slot "re.Match" "span" "re.Match.span" :=
  .of (owner := "re.Match") (n := "span") (by rw [typeLookup_type, builtinLookup_eq_fast]; kernel_rfl) (by decide +kernel) (by decide +kernel) (by decide +kernel)
    (by first | exact .inl (by decide +kernel) | exact .inr (by decide +kernel)) (by rw [isSubtype_type]; kernel_rfl)
theorem sp_type : typeOf (.builtin "re.Match.span") = pure (.type "method_descriptor") := by show builtinType _ = _; rw [builtinType_eq_fast]; kernel_rfl
theorem sp_entry : entryFor table "re.Match.span" = some Builtin.«re.Match.span» := entryFor_of_tree (by kernel_rfl)
theorem sp_args (a b : Value) : argsOk "re.Match.span" ⟨[a, b], []⟩ := by unfold argsOk; kernel_rfl
theorem gr_slot : Slot "re.Match" "group" "re.Match.group" :=
  .of (owner := "re.Match") (n := "group") (by rw [typeLookup_type, builtinLookup_eq_fast]; kernel_rfl) (by decide +kernel) (by decide +kernel) (by decide +kernel)
    (by first | exact .inl (by decide +kernel) | exact .inr (by decide +kernel)) (by rw [isSubtype_type]; kernel_rfl)
theorem gr_type : typeOf (.builtin "re.Match.group") = pure (.type "method_descriptor") := by show builtinType _ = _; rw [builtinType_eq_fast]; kernel_rfl
theorem gr_entry : entryFor table "re.Match.group" = some Builtin.«re.Match.group» := entryFor_of_tree (by kernel_rfl)
theorem gr_args (a b : Value) : argsOk "re.Match.group" ⟨[a, b], []⟩ := by unfold argsOk; kernel_rfl
section
variable {w : World} {A : Around} {E : Value → Shared → Prop} {s : Shared} {h₀ : Heap} {L : Addr} {m : Str → Option Value} {news : List (Addr × Obj)}
/-- a match of the heap: its text, whole span, first group -/
structure IsMatch (h : Heap) (q : Addr) (x : Str) (e b1 e1 : Nat) : Prop where
  ob : ∃ t a lim q1, h.get? q = some (matchObj x t a lim q1) ∧ h.get? q1 = some (spanObj e b1 e1)
theorem IsMatch.keeps {h h' : Heap} {q : Addr} {x : Str} {e b1 e1 : Nat} (I : IsMatch h q x e b1 e1) (k : Keeps h h') : IsMatch h' q x e b1 e1 := by
  obtain ⟨t, a, lim, q1, h1, h2⟩ := I.ob
  exact ⟨t, a, lim, q1, k _ _ h1, k _ _ h2⟩
theorem gm_span {q : Addr} {x : Str} {e b1 e1 : Nat} {pl : Sem Bool} {Q : Value × List Value → Shared → Prop} (I : IsMatch s.heap q x e b1 e1) (h : Q (.builtin "re.Match.span", [.ref q]) s) :
    wpAny (model prg w) A (getMethod (.ref q) "span" pl) Q E s := by
  obtain ⟨t, a, lim, q1, hq, hq1⟩ := I.ob
  exact getMethod_builtin ⟨_, hq, rfl⟩ mt_attrs sp_slot sp_type (fun b e => by cases e; exact ⟨_, hq, rfl⟩) h
theorem gm_group {q : Addr} {x : Str} {e b1 e1 : Nat} {pl : Sem Bool} {Q : Value × List Value → Shared → Prop} (I : IsMatch s.heap q x e b1 e1) (h : Q (.builtin "re.Match.group", [.ref q]) s) :
    wpAny (model prg w) A (getMethod (.ref q) "group" pl) Q E s := by
  obtain ⟨t, a, lim, q1, hq, hq1⟩ := I.ob
  exact getMethod_builtin ⟨_, hq, rfl⟩ mt_attrs gr_slot gr_type (fun b e => by cases e; exact ⟨_, hq, rfl⟩) h
theorem found_ {t : Tok} {a lim q1 : Nat} {q : Addr} {x : Str} {e b1 e1 : Nat} {Q : ReFound → Shared → Prop} (hq : s.heap.get? q = some (matchObj x t a lim q1)) (hq1 : s.heap.get? q1 = some (spanObj e b1 e1))
    (h : Q ⟨#[.str x t, .ref a, .int 0 0, .int (lim : Int) 0, .int 1 0, .ref q1], #[0, (e : Int), (b1 : Int), (e1 : Int)]⟩ s) : wpAny (model prg w) A (reFound (.ref q)) Q E s := by
  unfold reFound
  refine wpAny_bind ?_
  unfold fieldsOf
  refine wpAny_bind (wpAny_load hq (wpAny_pure ?_))
  refine wpAny_bind ?_
  unfold reRawItems
  refine wpAny_bind ?_
  show wpAny _ _ (seqItems? (.ref q1)) _ _ _
  refine wpAny_seqItems hq1 rfl (wpAny_pure (wpAny_pure ?_))
  simpa [reRawOf] using h
abbrev rf (x : Str) (t : Tok) (a lim q1 e b1 e1 : Nat) : ReFound := ⟨#[.str x t, .ref a, .int 0 0, .int (lim : Int) 0, .int 1 0, .ref q1], #[0, (e : Int), (b1 : Int), (e1 : Int)]⟩
theorem gn0 {x : Str} {t u : Tok} {a lim q1 e b1 e1 : Nat} : reGroupNumber (rf x t a lim q1 e b1 e1) (.int 0 u) = pure 0 := by kernel_rfl
theorem gn1 {x : Str} {t u : Tok} {a lim q1 e b1 e1 : Nat} : reGroupNumber (rf x t a lim q1 e b1 e1) (.int 1 u) = pure 1 := by kernel_rfl
theorem gtx {x : Str} {t : Tok} {a lim q1 e b1 e1 : Nat} : reGroupText (rf x t a lim q1 e b1 e1) 1 .none = mkStr ⟨x.cps.extract b1 e1⟩ := by
  unfold reGroupText
  show (if (decide ((b1 : Int) < 0) || decide ((e1 : Int) < 0)) = true then _ else _) = _
  rw [if_neg (by simp)]
  rfl
theorem call_span {q : Addr} {x : Str} {e b1 e1 : Nat} {t : Tok} {Q : Value → Shared → Prop} (I : IsMatch s.heap q x e b1 e1) (F : Fr h₀ L s.heap m) (N : News h₀ L s.heap news)
    (h : ∀ p t1 t2 h' tk, Fr h₀ L h' m → News h₀ L h' ((p, { cls := .type "tuple", data := .seq #[.int 0 t1, .int (e : Int) t2] }) :: news) → (∀ r ∈ news, r.1 < p) → Q (.ref p) { s with heap := h', toks := tk }) :
    wpAny (model prg w) A (call (.builtin "re.Match.span") [.ref q, .int 0 t]) Q E s := by
  obtain ⟨u, a, lim, q1, hq, hq1⟩ := I.ob
  refine wpAny_call (codeAny_call_builtin sp_slot.plain sp_entry (sp_slot.check _ _ _ _ _ _ _ _ ⟨_, hq, rfl⟩ (sp_args _ _) ?_))
  unfold Builtin.«re.Match.span» reOneGroup
  refine wpAny_bind (wpAny_bind (wpAny_of_eq (a := (.ref q, [.int 0 t])) (by first | rfl | kernel_rfl) ?_))
  refine wpAny_bind (found_ hq hq1 ?_)
  refine wpAny_bind (wpAny_of_eq gn0 ?_)
  refine wpAny_pure ?_
  refine wpAny_bind (wpAny_mkInt (wpAny_bind (wpAny_mkInt ?_)))
  refine wpAny_bind ?_
  unfold newTuple
  refine wpAny_newObj_type ?_
  exact wpAny_pure (h _ _ _ _ _ (F.push _) (News.push F N _) (fun p hp => Heap.lt_size (N p hp).1))
theorem call_group {q : Addr} {x : Str} {e b1 e1 : Nat} {t : Tok} {Q : Value → Shared → Prop} (I : IsMatch s.heap q x e b1 e1) (hx : x.cps.size ≤ 16777216) (h : ∀ t' tk, Q (.str ⟨x.cps.extract b1 e1⟩ t') { s with toks := tk }) :
    wpAny (model prg w) A (call (.builtin "re.Match.group") [.ref q, .int 1 t]) Q E s := by
  obtain ⟨u, a, lim, q1, hq, hq1⟩ := I.ob
  refine wpAny_call (codeAny_call_builtin gr_slot.plain gr_entry (gr_slot.check _ _ _ _ _ _ _ _ ⟨_, hq, rfl⟩ (gr_args _ _) ?_))
  unfold Builtin.«re.Match.group»
  refine wpAny_bind (wpAny_of_eq (a := ()) (by first | rfl | kernel_rfl) ?_)
  refine wpAny_bind (found_ hq hq1 ?_)
  dsimp only
  refine wpAny_bind (wpAny_of_eq gn1 ?_)
  rw [gtx]
  refine wpAny_bind (wpAny_mkStr (wpAny_pure (h _ _)) ?_)
  show (x.cps.extract b1 e1).size ≤ _
  rw [Array.size_extract, sizeLine_eq]; omega
end
end Mine
end
section
open PySem PySem.W PySem.Calls PyProof.Rows
set_option maxRecDepth 100000
namespace Mine
open PySem.Sre Builtin Builtin.Re
theorem mt_ga : Slot "re.Match" "__getattribute__" "object.__getattribute__" :=
  .of (owner := "object") (n := "__getattribute__") (by rw [typeLookup_type, builtinLookup_eq_fast]; kernel_rfl) (by decide +kernel) (by decide +kernel) (by decide +kernel)
    (by first | exact .inl (by decide +kernel) | exact .inr (by decide +kernel)) (by rw [isSubtype_type]; kernel_rfl)
theorem mt_noattr : typeLookup (.type "re.Match") "__getattr__" = pure none := by rw [typeLookup_type, builtinLookup_eq_fast]; kernel_rfl
theorem mt_string : typeLookup (.type "re.Match") "string" = pure (some (.builtin "re.Match.string")) := by rw [typeLookup_type, builtinLookup_eq_fast]; kernel_rfl
theorem ms_type : typeOf (.builtin "re.Match.string") = pure (.type "member_descriptor") := by show builtinType _ = _; rw [builtinType_eq_fast]; kernel_rfl
theorem md_get : typeLookup (.type "member_descriptor") "__get__" = pure (some (.builtin "member_descriptor.__get__")) := by rw [typeLookup_type, builtinLookup_eq_fast]; kernel_rfl
theorem md_set : typeLookup (.type "member_descriptor") "__set__" = pure (some (.builtin "member_descriptor.__set__")) := by rw [typeLookup_type, builtinLookup_eq_fast]; kernel_rfl
theorem ga_entry : entryFor table "object.__getattribute__" = some Builtin.«object.__getattribute__» := entryFor_of_tree (by kernel_rfl)
theorem ms_entry : entryFor table "re.Match.string" = some Builtin.«re.Match.string» := entryFor_of_tree (by kernel_rfl)
theorem ga_args (a b : Value) : argsOk "object.__getattribute__" ⟨[a, b], []⟩ := by unfold argsOk; kernel_rfl
section
variable {prog : Program} {w : World} {A : Around} {E : Value → Shared → Prop} {s : Shared} {h₀ : Heap} {L : Addr} {m : Str → Option Value} {news : List (Addr × Obj)}
theorem meets_ga_string {q : Addr} {x : Str} {t u : Tok} {a lim q1 : Nat} :
    Meets (Builtin.«object.__getattribute__» ⟨[.ref q, .str (Str.ofString "string") u], []⟩) (fun A R s => s.heap.get? q = some (matchObj x t a lim q1) ∧ R (.ok (.ret (.str x t))) s) := by
  refine fun prog w A R s hs => ?_
  obtain ⟨hp, g, d, tk, os⟩ := s
  obtain ⟨hx, hs⟩ := hs
  have hT : (⟨hp, g, d, tk, os⟩ : Shared).TypeIs (.ref q) "re.Match" := ⟨_, hx, rfl⟩
  have f1 := mt_string
  have f2 := ms_type
  have f3 := md_get
  have f4 := md_set
  unfold Builtin.«object.__getattribute__»
  repeat (any_goals (first | assumption | wp_step))
  refine codeAny_call_builtin KF.slot_mem.plain KF.entry_mem (KF.slot_mem.check _ _ _ _ _ _ _ _ (show (⟨hp, g, d, tk, os⟩ : Shared).TypeIs (.builtin "re.Match.string") "member_descriptor" from ms_type) (KF.args_mem _ _ _) ?_)
  unfold Builtin.«member_descriptor.__get__» Getset_descriptor.descrGet
  rw [dga_obj]
  refine wpAny_bind (wpAny_pure ?_)
  unfold Getset_descriptor.descrGetter Getset_descriptor.descrCheckInstance Getset_descriptor.descrNameAndClass
  have hon : Getset_descriptor.descrOwnerAndName "re.Match.string" = ("re.Match", "string") := by decide +kernel
  dsimp only
  rw [hon]
  refine wpAny_bind (wpAny_bind (wpAny_pure ?_))
  have hsub : isSubtype (.type "re.Match") (.type "re.Match") = pure true := by rw [isSubtype_type]; kernel_rfl
  refine wpAny_bind (wpAny_isInstance (T := "re.Match") (b := true) hT hsub ?_)
  refine wpAny_pure ?_
  refine wpAny_pure ⟨Code.quiet_builtin _ (by decide +kernel), codeAny_builtin ms_entry ?_⟩
  rw [Around.under_plainId (by decide +kernel)]
  unfold Builtin.«re.Match.string»
  refine wpAny_bind ?_
  show wpAny _ _ (field (.ref q) 0) _ _ _
  unfold field fieldsOf
  refine wpAny_bind (wpAny_bind (wpAny_load hx (wpAny_pure ?_)))
  exact wpAny_pure (wpAny_pure (wpAny_pure hs))
theorem get_string {q : Addr} {x : Str} {e b1 e1 : Nat} {expr : Bool} {Q : Value → Shared → Prop} (I : IsMatch s.heap q x e b1 e1) (h : ∀ t tk, Q (.str x t) { s with toks := tk }) :
    wpAny (model prg w) A (getAttr (.ref q) (Str.ofString "string") expr) Q E s := by
  obtain ⟨t, a, lim, q1, hq, hq1⟩ := I.ob
  obtain ⟨hp, g, d, tk, os⟩ := s
  have hT : ∀ tk', (⟨hp, g, d, tk', os⟩ : Shared).TypeIs (.ref q) "re.Match" := fun _ => ⟨_, hq, rfl⟩
  have f3 := mt_ga.lookup
  have f4 := mt_ga.bind (.ref q)
  have f5 := mt_noattr
  unfold getAttr getAttrBy
  repeat (any_goals (first | assumption | exact hT _ | ((with_reducible show wpAny _ _ (call (Value.builtin "object.__getattribute__") _ _) _ _ _); refine call_meets mt_ga (hT _) ga_entry (ga_args _ _) (meets_ga_string (t := t) (a := a) (lim := lim) (q1 := q1)) ⟨hq, ?_⟩) | wp_step))
  rw [show (expr && onTheHeap (Value.builtin "object.__getattribute__")) = false from Bool.and_false _, if_neg (by decide)]
  unfold boundAndCalled
  repeat (any_goals (first | assumption | exact hT _ | ((with_reducible show wpAny _ _ (call (Value.builtin "object.__getattribute__") _ _) _ _ _); refine call_meets mt_ga (hT _) ga_entry (ga_args _ _) (meets_ga_string (t := t) (a := a) (lim := lim) (q1 := q1)) ⟨hq, ?_⟩) | wp_step))
  exact handed_on rfl (h _ _)
end
end Mine
end
section
open PySem PySem.W PySem.Calls PyProof.Rows
namespace Mine
theorem sl_from {x : Str} {e : Nat} (he : e ≤ x.cps.size) : Txt.slice x (some (e : Int)) none = ⟨(x.cps.toList.drop e).toArray⟩ := by
  rw [slice_from_eq (b := (x.length : Int)) (by lia) (by show (e : Int) ≤ (x.cps.size : Int); lia) rfl]
  congr 1
  rw [Int.toNat_natCast, List.take_of_length_le]
  rw [List.length_drop, Array.length_toList]
  show _ ≤ ((x.cps.size : Int) - (e : Int)).toNat
  lia
theorem sl_to {x : Str} {e : Nat} (he : e ≤ x.cps.size) : Txt.slice x none (some (e : Int)) = ⟨(x.cps.toList.take e).toArray⟩ := by
  have := slice_closes_to (x := x) (j := (e : Int)) ⟨by lia, by rw [Array.length_toList]; lia⟩
  rw [beq_iff_eq] at this
  rw [this]
  simp
theorem sl_zero {x : Str} : Txt.slice x none (some 0) = ⟨#[]⟩ := by
  have := sl_to (x := x) (e := 0) (Nat.zero_le _)
  simpa using this
theorem nil_app {y : Str} : (⟨#[]⟩ : Str) ++ y = y := Str.empty_append y
theorem add_slices {prog : Program} {w : World} {A : Around} {E : Value → Shared → Prop} {s : Shared} {x : Str} {l1 u1 l2 u2 : Option Int} {t u : Tok} {Q : Value → Shared → Prop} (hx : x.cps.size ≤ 100000)
    (h : ∀ t' tk, Q (.str (Txt.slice x l1 u1 ++ Txt.slice x l2 u2) t') { s with toks := tk }) : wpAny (model prog w) A (binaryOp .Add (.str (Txt.slice x l1 u1) t) (.str (Txt.slice x l2 u2) u)) Q E s := by
  refine PyProof.Rows.add_str h ?_
  have a := Txt.slice_le x l1 u1
  have b := Txt.slice_le x l2 u2
  have c : x.length ≤ 100000 := hx
  rw [sizeLine_eq]; lia
end Mine
end
section
open PySem PySem.W PySem.Calls PyProof.Rows
namespace Mine
set_option maxRecDepth 100000
set_option maxHeartbeats 8000000
theorem kw_Unm_0 : True := by
  k_with_none
  trivial
theorem kw_Unm_1 : True := by
  (k_with "execs cons" => ((with_reducible show wpAny _ _ (execs (_ :: _) _) _ _ ⟨_, _, _, HAdd.hAdd _ _, _⟩); (try dsimp only); refine dropT ?_; intro tk9))
  (k_with "enter" => ((case h1 => k_is); (case h2 => k_is); (case h3 => decide); (case h4 => first | exact fun _ _ => BindsTo.of_eq rfl | exact fun _ kn => kp_binds kn.X (fun _ => rfl)); (case h5 => exact locs rfl); (case c5 => decide);  (case c2 => exact rfl); (case c3 => exact rfl); (case c4 => exact rfl)))
  (k_with "pureuse" => ((case kF => k_asm); (case kN => k_asm); (case kX => k_asm); (case kT => k_asm); (case lo => exact ⟨rfl, rfl, Nat.le_of_ble_eq_true rfl, Nat.le_of_ble_eq_true rfl⟩); k_whole))
  (k_with "getMethod ref" => (refine' gm_span ?gi ?_; (case gi => exact IsMatch.keeps (by assumption) (Fr.keep (by k_asm)))))
  (k_with "getAttr ref" => (refine' get_string ?gi ?_; (case gi => exact IsMatch.keeps (by assumption) (Fr.keep (by k_asm))); intro t9 k9))
  (k_with "call builtin:re.Match.span" => (refine' call_span ?gi ?gF ?gN ?_; (case gi => exact IsMatch.keeps (by assumption) (Fr.keep (by k_asm))); (case gF => k_asm); (case gN => k_asm); intro p9 t9 u9 h9 k9 F9 N9 l9; (try k_lt l9); (try dsimp only)))
  (k_with "binaryOp Add str str" => ((try dsimp only); (refine add_slices (by assumption) ?_); intro t9 k9))
  trivial
theorem unmatched_spec (w : World) (q : Addr) (x : Str) (e b1 e1 : Nat) (he : e ≤ x.cps.size) (hx : x.cps.size ≤ 100000) :
   PureC w 1 50 [.ref q] [] (fun h => IsMatch h q x e b1 e1) (fun _ _ v => ∃ t', v = .str ⟨(x.cps.toList.drop e).toArray⟩ t') := by
  refine' enterP [(Str.ofString "match", .ref q)] ?h1 ?h2 ?h3 ?h4 ?h5 ?_ ?c2 ?c3 ?c4 ?c5
  walk_at "enter"
  intro s p' loose' mg' mb' L' h' tk' pre' F' N' X' T' P' hP'
  k_steps
  exact hP' _ _ (Done.intro (by assumption) ⟨_, by rw [sl_zero, nil_app, sl_from he]⟩)
end Mine
end
section
open PySem PySem.W PySem.Calls PyProof.Rows
set_option maxRecDepth 100000
namespace Mine
open PySem.Sre
theorem getD_app {a : List Nat} {x : Nat} {r : List Nat} : ((a ++ (x :: r)).toArray).getD a.length 0 = x := by simp [Array.getD]
theorem cnt_list {P : Nat → Bool} {c : List Nat} (hc : ∀ x, c.head? = some x → P x = false) : ∀ (b a : List Nat), (∀ x ∈ b, P x = true) → cnt P ((a ++ (b ++ c)).toArray) (b.length + c.length) a.length = b.length
  | [], a, _ => by
    cases c with
    | nil => simp [cnt]
    | cons x c =>
      rw [List.nil_append, List.length_nil, Nat.zero_add, List.length_cons]
      unfold cnt
      rw [getD_app, hc x rfl]; simp
  | y :: b, a, hb => by
    have ih := cnt_list hc b (a ++ [y]) fun x hx => hb x (.tail _ hx)
    have e1 : (y :: b).length + c.length = (b.length + c.length) + 1 := by rw [List.length_cons]; lia
    rw [e1]
    unfold cnt
    rw [List.cons_append, getD_app, hb y (.head _), if_pos rfl]
    rw [List.append_assoc, List.length_append, List.length_singleton] at ih
    rw [show a ++ y :: (b ++ c) = a ++ ([y] ++ (b ++ c)) from rfl, ih, List.length_cons]
theorem cnt_list' {P : Nat → Bool} {a b c : List Nat} {l : List Nat} {n p : Nat} (hl : l = a ++ (b ++ c)) (hp : p = a.length) (hn : n = b.length + c.length) (hb : ∀ x ∈ b, P x = true) (hc : ∀ x, c.head? = some x → P x = false) : cnt P l.toArray n p = b.length := by
  subst hl; subst hp; subst hn; exact cnt_list hc b a hb
theorem sp32 : Unicode.isSpace 32 = true := by decide +kernel
theorem sp61 : Unicode.isSpace 61 = false := by decide +kernel
theorem sp44 : Unicode.isSpace 44 = false := by decide +kernel
theorem tk32 : tokP 32 = false := by decide +kernel
theorem tk44 : tokP 44 = false := by decide +kernel
theorem tk61 : tokP 61 = false := by decide +kernel
theorem vl32 : valP 32 = false := by decide +kernel
theorem vl44 : valP 44 = false := by decide +kernel
theorem vl61 : valP 61 = true := by decide +kernel
theorem tokP_sp {c : Nat} (h : tokP c = true) : Unicode.isSpace c = false := by
  unfold tokP at h
  split at h
  · cases h
  · simpa using h
theorem valP_sp {c : Nat} (h : valP c = true) : Unicode.isSpace c = false := by
  unfold valP at h
  split at h
  · cases h
  · rename_i h'; simpa using h'
theorem all_rep {n : Nat} : ∀ x ∈ List.replicate n 32, Unicode.isSpace x = true := fun x hx => by rw [(List.mem_replicate.mp hx).2]; exact sp32
theorem tokHit {n : Nat} {key rest l : List Nat} (hl : l = List.replicate n 32 ++ (key ++ rest)) (hz : l.length ≤ 100000) (hk : key ≠ []) (ht : ∀ x ∈ key, tokP x = true) (hr : ∀ x, rest.head? = some x → tokP x = false) :
    ∃ m', Hit m' (n + key.length) n (n + key.length) ∧ Rc 10 (Sre.forSearch tokC l.toArray 1 0 l.toArray.size false) m' := by
  have hkl : 0 < key.length := List.length_pos_iff.mpr hk
  have hlen : l.length = n + (key.length + rest.length) := by rw [hl, List.length_append, List.length_append, List.length_replicate]
  obtain ⟨lim, hlim⟩ : ∃ lim, l.length = lim + 1 := ⟨l.length - 1, by lia⟩
  have h0 : cnt Unicode.isSpace l.toArray (lim + 1) 0 = n := by
    have := cnt_list' (P := Unicode.isSpace) (a := []) (b := List.replicate n 32) (c := key ++ rest) (l := l) (n := lim + 1) (p := 0) (by rw [hl]; rfl) rfl (by rw [List.length_append, List.length_replicate]; lia) all_rep (by
      intro x hx
      cases key with
      | nil => exact absurd rfl hk
      | cons k ks => cases hx; exact tokP_sp (ht _ (.head _)))
    rw [List.length_replicate] at this; exact this
  have h1 : cnt tokP l.toArray (lim + 1 - n) n = key.length := cnt_list' (a := List.replicate n 32) (b := key) (c := rest) hl (by rw [List.length_replicate]) (by lia) ht hr
  have hsz : l.toArray.size = lim + 1 := by rw [List.size_toArray]; exact hlim
  rw [hsz]
  exact tok_match (by lia) h0 h1 (by lia)
theorem tokMiss {rest l : List Nat} (hl : l = 44 :: rest) (hz : l.length ≤ 100000) : ∃ m', m'.outcome = some .failed ∧ Rc 300000 (Sre.forSearch tokC l.toArray 1 0 l.toArray.size false) m' := by
  have hlen : l.length = rest.length + 1 := by rw [hl]; rfl
  have h0 : cnt Unicode.isSpace l.toArray (rest.length + 1) 0 = 0 := cnt_list' (P := Unicode.isSpace) (a := []) (b := []) (c := l) rfl rfl (by rw [hlen, List.length_nil]; lia) (fun _ h => nomatch h) (by intro x hx; rw [hl] at hx; cases hx; exact sp44)
  have h1 : cnt tokP l.toArray (rest.length + 1) 0 = 0 := cnt_list' (P := tokP) (a := []) (b := []) (c := l) rfl rfl (by rw [hlen, List.length_nil]; lia) (fun _ h => nomatch h) (by intro x hx; rw [hl] at hx; cases hx; exact tk44)
  rw [List.size_toArray, hlen]
  obtain ⟨m', ho, r⟩ := tok_no (text := l.toArray) (lim := rest.length) (by lia) h0 h1
  exact ⟨m', ho, r.mono (by lia)⟩
theorem valHit {n : Nat} {v rest l : List Nat} (hl : l = 61 :: (List.replicate n 32 ++ (v ++ rest))) (hz : l.length ≤ 100000) (hv : ∀ x ∈ v, valP x = true) (hr : ∀ x, rest.head? = some x → valP x = false) (hs : ∀ x, (v ++ rest).head? = some x → Unicode.isSpace x = false) :
    ∃ m', Hit m' (1 + n + v.length) (1 + n) (1 + n + v.length) ∧ Rc 20 (Sre.forSearch valC l.toArray 1 0 l.toArray.size false) m' := by
  have hlen : l.length = (n + (v.length + rest.length)) + 1 := by rw [hl, List.length_cons, List.length_append, List.length_append, List.length_replicate]
  have h1 : cnt Unicode.isSpace l.toArray (n + (v.length + rest.length)) 1 = n := by
    have := cnt_list' (P := Unicode.isSpace) (a := [61]) (b := List.replicate n 32) (c := v ++ rest) (l := l) (n := n + (v.length + rest.length)) (p := 1) hl rfl (by rw [List.length_append, List.length_replicate]) all_rep hs
    rw [List.length_replicate] at this; exact this
  have h2 : cnt valP l.toArray (n + (v.length + rest.length) - n) (1 + n) = v.length := cnt_list' (a := 61 :: List.replicate n 32) (b := v) (c := rest) (by rw [hl]; rfl) (by rw [List.length_cons, List.length_replicate]; lia) (by lia) hv hr
  rw [List.size_toArray, hlen]
  exact val_match (by lia) (by rw [hl]; rfl) h1 h2
theorem getD_ne {l : List Nat} {v : Nat} (h : ∀ x ∈ l, x ≠ v) {j : Nat} (hj : j < l.length) : l.toArray.getD j 0 ≠ v := by
  have : l.toArray.getD j 0 = l[j] := by simp [Array.getD, hj]
  rw [this]; exact h _ (List.getElem_mem hj)
/-- no = ahead -/
theorem noEq {n : Nat} {rest l : List Nat} (hl : l = List.replicate n 32 ++ rest) (hr : ∀ x, rest.head? = some x → x ≠ 61) (j : Nat) (hj : j ≤ n) (hjl : j < l.length) : l.toArray.getD j 0 ≠ 61 := by
  have : l.toArray.getD j 0 = l[j] := by simp [Array.getD, hjl]
  rw [this]
  subst hl
  by_cases h : j < n
  · rw [List.getElem_append_left (by rw [List.length_replicate]; exact h), List.getElem_replicate]; decide
  · have e : j = n := by lia
    subst e
    rw [List.getElem_append_right (by rw [List.length_replicate]; exact Nat.le_refl _)]
    cases rest with
    | nil => rw [List.length_append, List.length_replicate] at hjl; exact absurd hjl (by simp)
    | cons y r =>
      have := hr y rfl
      simpa using this
theorem valMiss {n : Nat} {rest l : List Nat} (hl : l = List.replicate n 32 ++ rest) (hz : l.length ≤ 100000) (hr : ∀ x, rest.head? = some x → x ≠ 61 ∧ Unicode.isSpace x = false) :
    ∃ m', m'.outcome = some .failed ∧ Rc 500000 (Sre.forSearch valC l.toArray 1 0 l.toArray.size false) m' := by
  cases h : l.length with
  | zero =>
    rw [List.size_toArray, h]
    obtain ⟨m', ho, r⟩ := val_start0 (text := l.toArray)
    exact ⟨m', ho, r.mono (by lia)⟩
  | succ lim =>
    have hlen : l.length = n + rest.length := by rw [hl, List.length_append, List.length_replicate]
    have h0 : cnt Unicode.isSpace l.toArray (lim + 1) 0 = n := by
      have := cnt_list' (P := Unicode.isSpace) (a := []) (b := List.replicate n 32) (c := rest) (l := l) (n := lim + 1) (p := 0) hl rfl (by rw [List.length_replicate]; lia) all_rep fun x hx => (hr x hx).2
      rw [List.length_replicate] at this; exact this
    rw [List.size_toArray, h]
    obtain ⟨m', ho, r⟩ := val_no (text := l.toArray) (lim := lim) (by lia) h0 fun j hj hj' => noEq hl (fun x hx => (hr x hx).1) j hj (by lia)
    exact ⟨m', ho, r.mono (by lia)⟩
theorem quoMiss {n : Nat} {rest l : List Nat} (hl : l = List.replicate n 32 ++ rest) (hz : l.length ≤ 100000) (hr : ∀ x, rest.head? = some x → x ≠ 61 ∧ Unicode.isSpace x = false) :
    ∃ m', m'.outcome = some .failed ∧ Rc 500000 (Sre.forSearch quoC l.toArray 1 0 l.toArray.size false) m' := by
  by_cases h3 : l.length < 3
  · obtain ⟨m', ho, r⟩ := quo_start0 (text := l.toArray) h3
    rw [List.size_toArray]
    exact ⟨m', ho, r.mono (by lia)⟩
  · obtain ⟨lim, h⟩ : ∃ lim, l.length = lim + 3 := ⟨l.length - 3, by lia⟩
    have hlen : l.length = n + rest.length := by rw [hl, List.length_append, List.length_replicate]
    have h0 : cnt Unicode.isSpace l.toArray (lim + 3) 0 = n := by
      have := cnt_list' (P := Unicode.isSpace) (a := []) (b := List.replicate n 32) (c := rest) (l := l) (n := lim + 3) (p := 0) hl rfl (by rw [List.length_replicate]; lia) all_rep fun x hx => (hr x hx).2
      rw [List.length_replicate] at this; exact this
    rw [List.size_toArray, h]
    obtain ⟨m', ho, r⟩ := quo_no (text := l.toArray) (lim := lim) (by lia) h0 fun j hj hj' => noEq hl (fun x hx => (hr x hx).1) j hj (by lia)
    exact ⟨m', ho, r.mono (by lia)⟩
theorem quoMiss2 {rest l : List Nat} (hl : l = 61 :: rest) (hz : l.length ≤ 100000) (hq : ∀ x ∈ l, x ≠ 34) :
    ∃ m', m'.outcome = some .failed ∧ Rc 500000 (Sre.forSearch quoC l.toArray 1 0 l.toArray.size false) m' := by
  by_cases h3 : l.length < 3
  · obtain ⟨m', ho, r⟩ := quo_start0 (text := l.toArray) h3
    rw [List.size_toArray]
    exact ⟨m', ho, r.mono (by lia)⟩
  · obtain ⟨lim, h⟩ : ∃ lim, l.length = lim + 3 := ⟨l.length - 3, by lia⟩
    rw [List.size_toArray, h]
    obtain ⟨m', ho, r⟩ := quo_no2 (text := l.toArray) (lim := lim) (by lia) (by rw [hl]; rfl) fun j hj => getD_ne hq (by lia)
    exact ⟨m', ho, r.mono (by lia)⟩

/-- a word of a stretch: blanks, key, value -/
structure Wd where
  n : Nat
  key : List Nat
  val : Option (List Nat)
def Wd.body (x : Wd) : List Nat := x.key ++ (match x.val with | none => [] | some v => 61 :: v)
def Wd.txt (x : Wd) : List Nat := List.replicate x.n 32 ++ x.body
structure Wd.Ok (x : Wd) : Prop where
  ne : x.key ≠ []
  key : ∀ c ∈ x.key, tokP c = true ∧ c ≠ 34
  val : ∀ v, x.val = some v → ∀ c ∈ v, valP c = true ∧ c ≠ 34
def StOk (ws : List Wd) : Prop := (∀ x ∈ ws, x.Ok) ∧ ∀ x ∈ ws.tail, 1 ≤ x.n
def stTxt (ws : List Wd) : List Nat := ws.flatMap Wd.txt
def moreTxt (more : List (List Wd)) : List Nat := more.flatMap fun st => 44 :: stTxt st
abbrev Pair := List Nat × Option (List Nat)
noncomputable def rowOf : List Wd → List Pair
  | [] => []
  | [x] => [(x.key, x.val)]
  | x :: y :: ws => if x.val = some [] then (x.key, some y.body) :: rowOf ws else (x.key, x.val) :: rowOf (y :: ws)
end Mine
end
section
open PySem PySem.W PySem.Calls PyProof.Rows
namespace Mine
/-- objects of h' that h had not -/
def Fresh (h h' : Heap) (nw : List (Addr × Obj)) : Prop := ∀ p ∈ nw, h'.get? p.1 = some p.2 ∧ h.get? p.1 = none
def NewD (d : Dat) (h h' : Heap) (v : Value) : Prop := ∃ nw, Fresh h h' nw ∧ DatIn nw v d
def AtD (h : Heap) (v : Value) (d : Dat) : Prop := ∃ nw, (∀ p ∈ nw, h.get? p.1 = some p.2) ∧ DatIn nw v d
theorem AtD.keeps {h h' : Heap} {v : Value} {d : Dat} (a : AtD h v d) (k : Keeps h h') : AtD h' v d := by
  obtain ⟨nw, hn, hd⟩ := a
  exact ⟨nw, fun p hp => k _ _ (hn p hp), hd⟩
theorem AtD.of {h₀ h : Heap} {L : Addr} {news : List (Addr × Obj)} {v : Value} {d : Dat} (N : News h₀ L h news) (hd : DatIn news v d) : AtD h v d := ⟨news, fun p hp => (N p hp).1, hd⟩
theorem Fresh.nil {h h' : Heap} : Fresh h h' [] := fun _ hp => nomatch hp
theorem Fresh.news {h₀ h h' : Heap} {L : Addr} {m : Str → Option Value} {nw : List (Addr × Obj)} (F : Fr h₀ L h m) (f : Fresh h h' nw) : News h₀ L h' nw := by
  intro p hp
  obtain ⟨h1, h2⟩ := f p hp
  refine ⟨h1, ?_, ?_⟩
  · intro e
    obtain ⟨oL, _, _, hL, _⟩ := F.ns
    rw [e, hL] at h2; cases h2
  · cases e : h₀.get? p.1 with
    | none => rfl
    | some o => have := F.keep _ _ e; rw [h2] at this; cases this
theorem Fresh.off {h₀ h h' : Heap} {L : Addr} {nw news : List (Addr × Obj)} (N : News h₀ L h news) (f : Fresh h h' nw) : OwnOff nw (news.map (·.1)) := by
  intro p hp b hb e
  obtain ⟨q, hq, rfl⟩ := List.mem_map.mp hb
  have := (N q hq).1
  rw [← e, (f p hp).2] at this; cases this
theorem News.app {h₀ h : Heap} {L : Addr} {a b : List (Addr × Obj)} (x : News h₀ L h a) (y : News h₀ L h b) : News h₀ L h (a ++ b) :=
  fun p hp => (List.mem_append.mp hp).elim (x p) (y p)
theorem News.sub {h₀ h : Heap} {L : Addr} {a b : List (Addr × Obj)} (x : News h₀ L h a) (s : ∀ p ∈ b, p ∈ a) : News h₀ L h b := fun p hp => x p (s p hp)
/-- what is new in a frame is new to the caller -/
theorem News.fresh' {h₀ h : Heap} {L : Addr} {news : List (Addr × Obj)} (N : News h₀ L h news) : Fresh h₀ h news := fun p hp => ⟨(N p hp).1, (N p hp).2.2⟩
theorem NewD.of {h₀ h : Heap} {L : Addr} {news : List (Addr × Obj)} {v : Value} {d : Dat} (N : News h₀ L h news) (hd : DatIn news v d) : NewD d h₀ h v := ⟨news, News.fresh' N, hd⟩
theorem Fresh.trans {h h' h'' : Heap} {nw : List (Addr × Obj)} (f : Fresh h h' nw) (k : Keeps h' h'') : Fresh h h'' nw := fun p hp => ⟨k _ _ (f p hp).1, (f p hp).2⟩
theorem Fresh.app {h h' : Heap} {a b : List (Addr × Obj)} (x : Fresh h h' a) (y : Fresh h h' b) : Fresh h h' (a ++ b) := fun p hp => (List.mem_append.mp hp).elim (x p) (y p)
theorem AllLt.ne {d : Nat} {l : List (Addr × Obj)} (h : AllLt d l) : ∀ p ∈ l, d ≠ p.1 := by
  induction l with
  | nil => intro p hp; cases hp
  | cons a r ih =>
    intro q hq
    obtain ⟨h1, h2⟩ := (show @LT.lt Nat _ a.1 d ∧ AllLt d r from h)
    rcases List.mem_cons.mp hq with e | hq
    · rw [e]; exact Nat.ne_of_gt h1
    · exact ih h2 q hq
theorem OwnOff.app {a b : List (Addr × Obj)} {adr : List Addr} (x : OwnOff a adr) (y : OwnOff b adr) : OwnOff (a ++ b) adr := fun p hp => (List.mem_append.mp hp).elim (x p) (y p)
theorem OwnOff.sub {a : List (Addr × Obj)} {x y : List Addr} (h : OwnOff a y) (s : ∀ b ∈ x, b ∈ y) : OwnOff a x := fun p hp b hb => h p hp b (s b hb)
theorem OwnOff.cons {a : List (Addr × Obj)} {q : Addr × Obj} {adr : List Addr} (x : ∀ b ∈ adr, q.1 ≠ b) (y : OwnOff a adr) : OwnOff (q :: a) adr := fun p hp => (List.mem_cons.mp hp).elim (fun e => e ▸ x) (y p)
end Mine
end
section
open PySem PySem.W PySem.Calls PyProof.Rows
set_option maxRecDepth 100000
namespace Mine
open PySem.Sre
def tlTxt (ws : List Wd) (more : List (List Wd)) : List Nat := stTxt ws ++ moreTxt more
theorem tlTxt_cons (x : Wd) (ws : List Wd) (more : List (List Wd)) : tlTxt (x :: ws) more = List.replicate x.n 32 ++ (x.body ++ tlTxt ws more) := by
  simp [tlTxt, stTxt, Wd.txt, List.append_assoc]
theorem tlTxt_nil (more : List (List Wd)) : tlTxt [] more = moreTxt more := rfl
theorem tlTxt_more (st : List Wd) (more : List (List Wd)) : tlTxt [] (st :: more) = 44 :: tlTxt st more := by
  simp [tlTxt, stTxt, moreTxt]
theorem more_head {more : List (List Wd)} : ∀ x, (moreTxt more).head? = some x → x = 44 := by
  intro x hx
  cases more with
  | nil => cases hx
  | cons st more => cases hx; rfl
theorem tl_head {ws : List Wd} {more : List (List Wd)} (h1 : ∀ y ∈ ws, 1 ≤ y.n) : ∀ x, (tlTxt ws more).head? = some x → x = 32 ∨ x = 44 := by
  intro x hx
  cases ws with
  | nil => exact .inr (more_head x hx)
  | cons y ws =>
    rw [tlTxt_cons] at hx
    have := h1 y (.head _)
    obtain ⟨k, hk⟩ : ∃ k, y.n = k + 1 := ⟨y.n - 1, by lia⟩
    rw [hk] at hx
    cases hx; exact .inl rfl
/-- blanks, then no = -/
theorem tl_blanks {ws : List Wd} {more : List (List Wd)} (ok : ∀ y ∈ ws, y.Ok) : ∃ n rest, tlTxt ws more = List.replicate n 32 ++ rest ∧ ∀ x, rest.head? = some x → x ≠ 61 ∧ Unicode.isSpace x = false := by
  cases ws with
  | nil => exact ⟨0, _, rfl, fun x hx => by rw [more_head x hx]; exact ⟨by decide, sp44⟩⟩
  | cons y ws =>
    refine ⟨y.n, _, tlTxt_cons _ _ _, fun x hx => ?_⟩
    have oy := ok y (.head _)
    cases hk : y.key with
    | nil => exact absurd hk oy.ne
    | cons c ks =>
      unfold Wd.body at hx
      rw [hk] at hx
      have ex : c = x := by simpa using hx
      subst ex
      have hc := (oy.key c (by rw [hk]; exact .head _)).1
      refine ⟨fun e => ?_, tokP_sp hc⟩
      rw [e, tk61] at hc; cases hc
theorem tk59 : tokP 59 = false := by decide +kernel
theorem body_ok {y : Wd} (o : y.Ok) : ∀ c ∈ y.body, valP c = true ∧ c ≠ 34 := by
  intro c hc
  unfold Wd.body at hc
  rcases List.mem_append.mp hc with h | h
  · obtain ⟨a, b⟩ := o.key c h
    refine ⟨?_, b⟩
    have h1 : (c == 59) = false := beq_eq_false_iff_ne.mpr fun e => by rw [e, tk59] at a; cases a
    have h2 : (c == 44) = false := beq_eq_false_iff_ne.mpr fun e => by rw [e, tk44] at a; cases a
    unfold valP
    rw [tokP_sp a, h1, h2]; rfl
  · revert h
    cases hv : y.val with
    | none => intro h; cases h
    | some v =>
      intro h
      rcases List.mem_cons.mp h with rfl | h
      · exact ⟨vl61, by decide⟩
      · exact o.val v hv c h
theorem body_ne {y : Wd} (o : y.Ok) : y.body ≠ [] := by
  unfold Wd.body
  intro h
  exact o.ne (List.append_eq_nil_iff.mp h).1
theorem body_head {y : Wd} (o : y.Ok) (r : List Nat) : ∀ x, (y.body ++ r).head? = some x → Unicode.isSpace x = false := by
  intro x hx
  cases hb : y.body with
  | nil => exact absurd hb (body_ne o)
  | cons c ks =>
    rw [hb] at hx
    have ex : c = x := by simpa using hx
    subst ex
    exact valP_sp (body_ok o c (by rw [hb]; exact .head _)).1
/-- one word taken: key, then no value, or a value -/
inductive Taken (x : Wd) (ws : List Wd) (more : List (List Wd)) : Prop
  | none (h : x.val = none) (l : List Nat) (n : Nat) (r : List Nat) (hl : tlTxt (x :: ws) more = List.replicate x.n 32 ++ (x.key ++ l)) (el : l = tlTxt ws more) (bl : l = List.replicate n 32 ++ r) (hr : ∀ x, r.head? = some x → x ≠ 61 ∧ Unicode.isSpace x = false)
      (hk : ∀ x, l.head? = some x → tokP x = false) (row : rowOf (x :: ws) = (x.key, Option.none) :: rowOf ws) : Taken x ws more
  | some (l : List Nat) (n : Nat) (v r : List Nat) (ws' : List Wd) (hl : tlTxt (x :: ws) more = List.replicate x.n 32 ++ (x.key ++ l)) (el : l = 61 :: (List.replicate n 32 ++ (v ++ r))) (hv : ∀ x ∈ v, valP x = true) (hr : ∀ x, r.head? = some x → valP x = false) (hs : ∀ x, (v ++ r).head? = some x → Unicode.isSpace x = false)
      (er : r = tlTxt ws' more) (row : rowOf (x :: ws) = (x.key, Option.some v) :: rowOf ws') (ok : StOk ws') (ha : ∀ y ∈ ws', 1 ≤ y.n) : Taken x ws more
theorem StOk.tail {x : Wd} {ws : List Wd} (h : StOk (x :: ws)) : StOk ws := ⟨fun y hy => h.1 y (.tail _ hy), fun y hy => h.2 y (List.mem_of_mem_tail hy)⟩
theorem tl_valP {ws : List Wd} {more : List (List Wd)} (h1 : ∀ y ∈ ws, 1 ≤ y.n) : ∀ x, (tlTxt ws more).head? = some x → valP x = false := by
  intro x hx
  rcases tl_head h1 x hx with rfl | rfl
  · exact vl32
  · exact vl44
theorem tl_tokP {ws : List Wd} {more : List (List Wd)} (h1 : ∀ y ∈ ws, 1 ≤ y.n) : ∀ x, (tlTxt ws more).head? = some x → tokP x = false := by
  intro x hx
  rcases tl_head h1 x hx with rfl | rfl
  · exact tk32
  · exact tk44
theorem taken {x : Wd} {ws : List Wd} {more : List (List Wd)} (h : StOk (x :: ws)) : Taken x ws more := by
  have h1 : ∀ y ∈ ws, 1 ≤ y.n := h.2
  cases hv : x.val with
  | none =>
    obtain ⟨n, r, e, hr⟩ := tl_blanks (ws := ws) (more := more) h.tail.1
    refine .none hv _ n r ?_ rfl e hr (tl_tokP h1) ?_
    · rw [tlTxt_cons]; unfold Wd.body; rw [hv]; simp
    · cases ws with
      | nil => simp [rowOf, hv]
      | cons y ws => simp [rowOf, hv]
  | some v =>
    cases v with
    | cons c cs =>
      refine .some (61 :: ((c :: cs) ++ tlTxt ws more)) 0 (c :: cs) (tlTxt ws more) ws ?_ rfl (fun z hz => ((h.1 x (.head _)).val _ hv z hz).1) (tl_valP h1) ?_ rfl ?_ h.tail h1
      · rw [tlTxt_cons]; unfold Wd.body; rw [hv]; simp
      · intro z hz
        have ex : c = z := by simpa using hz
        subst ex
        exact valP_sp ((h.1 x (.head _)).val _ hv c (.head _)).1
      · cases ws with
        | nil => simp [rowOf, hv]
        | cons y ws => simp [rowOf, hv]
    | nil =>
      cases ws with
      | nil =>
        refine .some (61 :: tlTxt [] more) 0 [] (tlTxt [] more) [] ?_ rfl (fun _ hz => nomatch hz) (tl_valP h1) ?_ rfl ?_ h.tail h1
        · rw [tlTxt_cons]; unfold Wd.body; rw [hv]; simp
        · intro z hz
          rw [more_head z hz]; exact sp44
        · simp [rowOf, hv]
      | cons y ws =>
        have oy := h.1 y (.tail _ (.head _))
        refine .some (61 :: tlTxt (y :: ws) more) y.n y.body (tlTxt ws more) ws ?_ ?_ (fun z hz => (body_ok oy z hz).1) (tl_valP fun z hz => h1 z (.tail _ hz)) (body_head oy _) rfl ?_ h.tail.tail fun z hz => h1 z (.tail _ hz)
        · rw [tlTxt_cons x]; unfold Wd.body; rw [hv]; simp
        · rw [tlTxt_cons y]
        · simp [rowOf, hv]
end Mine
end
section
open PySem PySem.W PySem.Calls PyProof.Rows
set_option maxRecDepth 100000
namespace Mine
open PySem.Sre
def Hold (p : Prop) : Prop := p
theorem Hold.mk {p : Prop} (h : Hold p) : p := h
def sOf (l : List Nat) : Str := ⟨l.toArray⟩
def pairD (p : Pair) : Dat := .tuple [.str (sOf p.1), match p.2 with | none => .none | some v => .str (sOf v)]
def rowD (ps : List Pair) : Dat := .list (ps.map pairD)
structure StsOk (sts : List (List Wd)) : Prop where
  ok : ∀ st ∈ sts, StOk st ∧ st ≠ []
def stsTxt (sts : List (List Wd)) : List Nat := match sts with | [] => [] | st :: more => tlTxt st more
theorem IsList.some {h : Heap} {a : Addr} {items : Array Value} (x : h.IsList a items) : h.get? a = some x.choose := x.choose_spec.1
theorem IsList.keeps {h h' : Heap} {a : Addr} {items : Array Value} (x : h.IsList a items) (k : Keeps h h') : h'.IsList a items := by
  obtain ⟨o, ho, r⟩ := x
  exact ⟨o, k _ _ ho, r⟩
theorem OwnOff.nil {adr : List Addr} : OwnOff [] adr := fun _ h => nomatch h
theorem sOf_size (l : List Nat) : (sOf l).cps.size = l.length := List.size_toArray ..
theorem unm_spec' (w : World) (q : Addr) (l r : List Nat) (e b1 e1 : Nat) (he : e ≤ l.length) (hx : l.length ≤ 100000) (hd : l.drop e = r) :
    PureC w 1 50 [.ref q] [] (fun h => IsMatch h q (sOf l) e b1 e1) (fun _ _ v => ∃ t', v = .str (sOf r) t') := by
  have := unmatched_spec w q (sOf l) e b1 e1 (by rw [sOf_size]; exact he) (by rw [sOf_size]; exact hx)
  have e : (⟨((sOf l).cps.toList.drop e).toArray⟩ : Str) = sOf r := by rw [← hd]; rfl
  rw [e] at this
  exact this
section
variable {w : World} {A : Around} {E : Value → Shared → Prop} {s : Shared} {h₀ : Heap} {L : Addr} {m : Str → Option Value} {news : List (Addr × Obj)}
theorem IsMatch.of {h : Heap} {q q1 : Addr} {x : Str} {t : Tok} {a lim e b1 e1 : Nat} (N : News h₀ L h news) (hq : (q, matchObj x t a lim q1) ∈ news) (hq1 : (q1, spanObj e b1 e1) ∈ news) : IsMatch h q x e b1 e1 :=
  ⟨⟨t, a, lim, q1, (N _ hq).1, (N _ hq1).1⟩⟩
theorem call_group' {q : Addr} {l g : List Nat} {e b1 e1 : Nat} {t : Tok} {Q : Value → Shared → Prop} (I : IsMatch s.heap q (sOf l) e b1 e1) (hg : (l.take e1).drop b1 = g) (hx : l.length ≤ 100000) (h : ∀ t' tk, Q (.str (sOf g) t') { s with toks := tk }) :
    wpAny (model prg w) A (call (.builtin "re.Match.group") [.ref q, .int 1 t]) Q E s := by
  refine call_group I (by rw [sOf_size]; lia) fun t' tk => ?_
  have e : (⟨(sOf l).cps.extract b1 e1⟩ : Str) = sOf g := by rw [← hg]; unfold sOf; simp [List.drop_take]
  rw [e]; exact h t' tk
theorem search_hit' {a : Addr} {C : Array Nat} {l : List Nat} {t : Tok} {e b1 e1 n : Nat} {m' : M} {Q : Value → Shared → Prop} (I : IsPat a C) (F : Fr h₀ L s.heap m) (N : News h₀ L s.heap news) (X : (Mine.hd.heap_39 w.params).In h₀)
    (r : Rc n (Sre.forSearch C l.toArray 1 0 l.toArray.size false) m') (hx : l.length ≤ 100000) (hn : n ≤ 1000000) (hit : Hit m' e b1 e1) (hbe : b1 ≤ e1)
    (h : ∀ q1 q2 h', Fr h₀ L h' m → News h₀ L h' ((q2, matchObj (sOf l) t a (sOf l).cps.size q1) :: (q1, spanObj e b1 e1) :: news) → (∀ p ∈ news, p.1 < q1) → q1 < q2 → Q (.ref q2) { s with heap := h' }) :
    wpAny (model prg w) A (call (.builtin "re.Pattern.search") [.ref a, .str (sOf l) t]) Q E s :=
  search_hit I F N X (by rw [sOf_size]; lia) r (by lia) hit hbe h
theorem search_miss' {a : Addr} {C : Array Nat} {l : List Nat} {t : Tok} {n : Nat} {m' : M} {Q : Value → Shared → Prop} (I : IsPat a C) (F : Fr h₀ L s.heap m) (X : (Mine.hd.heap_39 w.params).In h₀)
    (r : Rc n (Sre.forSearch C l.toArray 1 0 l.toArray.size false) m') (hx : l.length ≤ 100000) (hn : n ≤ 1000000) (ho' : m'.outcome = some .failed) (h : Q .none s) :
    wpAny (model prg w) A (call (.builtin "re.Pattern.search") [.ref a, .str (sOf l) t]) Q E s :=
  search_miss I F X (by rw [sOf_size]; lia) r (by lia) ho' h
end
theorem takeWhile_nil {α : Type} {p : α → Bool} : ∀ {l : List α}, (∀ x, l.head? = some x → p x = false) → l.takeWhile p = []
  | [], _ => rfl
  | a :: r, h => by rw [List.takeWhile_cons, h a rfl]; rfl
theorem lstrip_sOf {l : List Nat} (h : ∀ x, l.head? = some x → Unicode.isSpace x = false) : Txt.lstrip (sOf l) = sOf l := by
  unfold Txt.lstrip
  rw [PyProof.Rows.stripBy_eq]
  have e : PySem.stripLo Unicode.isSpace true (sOf l) = 0 := by
    unfold PySem.stripLo
    rw [if_pos rfl, show (sOf l).cps.toList = l from rfl, takeWhile_nil h]; rfl
  rw [e]
  exact strSub_whole _
theorem rstrip_sOf {l : List Nat} (h : ∀ x ∈ l, valP x = true) : Txt.rstrip (sOf l) = sOf l := by
  unfold Txt.rstrip
  rw [PyProof.Rows.stripBy_eq]
  have e : PySem.stripLo Unicode.isSpace false (sOf l) = 0 := rfl
  have e2 : PySem.stripHi Unicode.isSpace true (sOf l) 0 = (sOf l).length := by
    unfold PySem.stripHi
    rw [if_pos rfl, show (sOf l).cps.toList = l from rfl, takeWhile_nil (fun x hx => ?_)]
    · rfl
    · have : x ∈ (l.drop 0).reverse := List.mem_of_mem_head? hx
      rw [List.drop_zero, List.mem_reverse] at this
      exact valP_sp (h x this)
  rw [e, e2]
  exact strSub_whole _
theorem starts_comma {l : List Nat} : Txt.startswith (sOf (44 :: l)) (Str.ofString ",") = true := by
  unfold Txt.startswith Builtin.Str.subAt
  have e1 : (Str.ofString ",").length = 1 := rfl
  have e2 : (sOf (44 :: l)).length = l.length + 1 := by show (sOf (44 :: l)).cps.size = _; rw [sOf_size]; rfl
  have e3 : (sOf (44 :: l)).cps.extract 0 (0 + 1) = #[44] := by unfold sOf; simp
  rw [e1, e2, e3]
  simp
  rfl
theorem slice_one {c : Nat} {l : List Nat} : Txt.slice (sOf (c :: l)) (some 1) none = sOf l := by
  have := sl_from (x := sOf (c :: l)) (e := 1) (by rw [sOf_size, List.length_cons]; lia)
  rw [show ((1 : Nat) : Int) = 1 from rfl] at this
  rw [this]; rfl
section
variable {w : World} {A : Around} {E : Value → Shared → Prop} {s : Shared}
theorem truthy_sOf {c : Nat} {l : List Nat} {t : Tok} {Q : Bool → Shared → Prop} (hl : (c :: l).length ≤ 100000) (h : Q true { s with toks := s.toks + 1 + 1 }) : wpAny (model prg w) A (truthy (.str (sOf (c :: l)) t)) Q E s := by
  have e : (sOf (c :: l)).length = l.length + 1 := by show (sOf (c :: l)).cps.size = _; rw [sOf_size]; rfl
  rw [List.length_cons] at hl
  refine PySem.P.truthy_str (by rw [e]; lia) ?_
  have : (((sOf (c :: l)).length : Int) != 0) = true := by rw [e, bne_iff_ne]; lia
  rw [this]; exact h
theorem truthy_ne {l : List Nat} {t : Tok} {Q : Bool → Shared → Prop} (hn : l ≠ []) (hl : l.length ≤ 100000) (h : Q true { s with toks := s.toks + 1 + 1 }) : wpAny (model prg w) A (truthy (.str (sOf l) t)) Q E s := by
  cases l with
  | nil => exact absurd rfl hn
  | cons c l => exact truthy_sOf hl h
theorem call_lstrip' {l : List Nat} {t : Tok} {Q : Value → Shared → Prop} (hs : ∀ x, l.head? = some x → Unicode.isSpace x = false) (hl : l.length ≤ 100000) (h : ∀ t' k, Q (.str (sOf l) t') { s with toks := k }) : wpAny (model prg w) A (call (.builtin "str.lstrip") [.str (sOf l) t]) Q E s := by
  refine SC.lstrip (by rw [lstrip_sOf hs]; exact h) ?_
  show (sOf l).cps.size ≤ _
  rw [sOf_size, sizeLine_eq]; lia
theorem call_rstrip' {l : List Nat} {t : Tok} {Q : Value → Shared → Prop} (hs : ∀ x ∈ l, valP x = true) (hl : l.length ≤ 100000) (h : ∀ t' k, Q (.str (sOf l) t') { s with toks := k }) : wpAny (model prg w) A (call (.builtin "str.rstrip") [.str (sOf l) t]) Q E s := by
  refine SC.rstrip (by rw [rstrip_sOf hs]; exact h) ?_
  show (sOf l).cps.size ≤ _
  rw [sOf_size, sizeLine_eq]; lia
theorem call_starts' {l : List Nat} {t u : Tok} {Q : Value → Shared → Prop} (h : Q (.bool true) s) : wpAny (model prg w) A (call (.builtin "str.startswith") [.str (sOf (44 :: l)) t, .str (Str.ofString ",") u]) Q E s :=
  SC.startswith (by rw [starts_comma]; exact h)
end
theorem sOf_fits {l : List Nat} (h : l.length ≤ 100000) : (sOf l).length ≤ sizeLine := by
  show (sOf l).cps.size ≤ _
  rw [sOf_size, sizeLine_eq]; lia
theorem head44 {l : List Nat} : ∀ x, (44 :: l).head? = some x → Unicode.isSpace x = false := fun x hx => by cases hx; exact sp44
structure SpS (sts : List (List Wd)) (own : List (Addr × Obj)) (pa ra : Addr) (pits rits : List Value) (dl : List (Addr × Obj)) (ws : List Wd) (more : List (List Wd)) (ps : List Pair) (rs : List (List Pair)) : Prop where
  ne : @Ne Nat pa ra
  odl : OwnOff dl [pa, ra]
  oown : OwnOff own [pa, ra]
  oo : OwnOff own (dl.map (·.1))
  dp : DatAll dl pits (ps.map pairD)
  dr : DatAll dl rits (rs.map rowD)
  okw : StOk ws
  okm : ∀ st ∈ more, StOk st ∧ st ≠ []
  some : ps ≠ [] ∨ ws ≠ []
  eq : rs ++ [ps ++ rowOf ws] ++ more.map rowOf = sts.map rowOf
  lp : pits.length + (tlTxt ws more).length ≤ 100001
  lr : rits.length + (tlTxt ws more).length ≤ 100001
  len : (tlTxt ws more).length ≤ 100000
  nq : ∀ c ∈ tlTxt ws more, c ≠ 34
inductive SpW (sts : List (List Wd)) (own : List (Addr × Obj)) (n : Nat) (m : Str → Option Value) (nx : List (Addr × Obj)) : Prop
  | mk (pa ra : Addr) (pits rits : List Value) (kp kr : Nat) (dl : List (Addr × Obj)) (ws : List Wd) (more : List (List Wd)) (ps : List Pair) (rs : List (List Pair)) (t : Tok) (h0 : nx = (pa, W.listOf pits.toArray kp) :: (ra, W.listOf rits.toArray kr) :: (dl ++ own)) (h1 : n = (tlTxt ws more).length) (h2 : m (Str.ofString "text") = some (.str (sOf (tlTxt ws more)) t)) (h3 : m (Str.ofString "pairs") = some (.ref pa)) (h4 : m (Str.ofString "result") = some (.ref ra)) (h5 : SpS sts own pa ra pits rits dl ws more ps rs) : SpW sts own n m nx
inductive SpJ (sts : List (List Wd)) (i : Nat) (m : Str → Option Value) (nx : List (Addr × Obj)) : Prop
  | mk (ra : Addr) (its : List Value) (k : Nat) (dl : List (Addr × Obj)) (h0 : nx = (ra, W.listOf its.toArray k) :: dl) (h1 : OwnOff dl [ra]) (h2 : DatAll dl its (if i = 0 then [] else sts.map fun st => rowD (rowOf st))) (h3 : m (Str.ofString "result") = some (.ref ra)) : SpJ sts i m nx
theorem ws2_intro {h₀ h' : Heap} {L : Addr} {s : Shared} {J : Nat → (Str → Option Value) → List (Addr × Obj) → Prop} {Q : Flow → Shared → Prop} {n n' : Nat} {m' : Str → Option Value} {news' nx : List (Addr × Obj)} {tk : Nat} (F : Fr h₀ L h' m') (N : News h₀ L h' news')
    (sub : ∀ p ∈ nx, p ∈ news') (hn : n' < n) (hj : J n' m' nx) : WhileStep2 h₀ L s J Q n .next { s with heap := h', toks := tk } := ⟨h', tk, m', nx, n', rfl, F, News.sub N sub, hn, hj⟩
theorem off2 {d : List (Addr × Obj)} {pa ra q : Nat} (h : OwnOff d [pa, ra]) (hq : AllLt q d) : OwnOff d [q, ra] := by
  intro p hp b hb
  rcases List.mem_cons.mp hb with rfl | hb
  · exact (AllLt.ne hq p hp).symm
  · exact h p hp b (.tail _ hb)
theorem AllLt.app {q : Nat} : ∀ {a b : List (Addr × Obj)}, AllLt q (a ++ b) → AllLt q a ∧ AllLt q b
  | [], _, h => ⟨trivial, h⟩
  | _ :: _, _, h => ⟨⟨h.1, (AllLt.app h.2).1⟩, (AllLt.app h.2).2⟩
theorem sp_comma {sts : List (List Wd)} {own : List (Addr × Obj)} {pa ra q : Addr} {pits rits : List Value} {dl : List (Addr × Obj)} {st : List Wd} {more : List (List Wd)} {ps : List Pair} {rs : List (List Pair)} (S : SpS sts own pa ra pits rits dl [] (st :: more) ps rs) (kp : Nat)
    (l1 : @LT.lt Nat _ pa q) (l2 : @LT.lt Nat _ ra q) (l3 : AllLt q (dl ++ own)) :
    SpS sts own q ra [] (rits ++ [.ref pa]) ((pa, W.listOf pits.toArray kp) :: dl) st more [] (rs ++ [ps]) := by
  obtain ⟨ne, odl, oown, oo, dp, dr, okw, okm, hsome, heq, lp, lr, hlen, hnq⟩ := S
  obtain ⟨l4, l5⟩ := AllLt.app l3
  rw [tlTxt_more] at lp lr hlen hnq
  refine ⟨Nat.ne_of_gt l2, OwnOff.cons ?_ (off2 odl l4), off2 oown l5, ?_, DatAll.nil, ?_, (okm _ (.head _)).1, fun x hx => okm x (.tail _ hx), .inr (okm _ (.head _)).2, ?_, ?_, ?_, ?_, ?_⟩
  · intro b hb
    rcases List.mem_cons.mp hb with rfl | hb
    · exact Nat.ne_of_lt l1
    · rw [List.mem_singleton.mp hb]; exact ne
  · intro p hp b hb
    rcases List.mem_cons.mp hb with rfl | hb
    · exact oown p hp _ (by simp)
    · exact oo p hp b hb
  · rw [List.map_append]
    refine DatAll.append (dr.mono fun p hp => .tail _ hp) (DatAll.one ?_)
    unfold rowD
    exact .list (.head _) (dp.mono fun p hp => .tail _ hp)
  · rw [← heq]; simp [rowOf]
  · rw [List.length_cons] at hlen; rw [List.length_nil]; lia
  · rw [List.length_cons] at lr; rw [List.length_append, List.length_singleton]; lia
  · rw [List.length_cons] at hlen; lia
  · exact fun c hc => hnq c (.tail _ hc)
theorem sp_word {sts : List (List Wd)} {own : List (Addr × Obj)} {pa ra q : Addr} {pits rits : List Value} {dl : List (Addr × Obj)} {x : Wd} {ws ws' : List Wd} {more : List (List Wd)} {ps : List Pair} {rs : List (List Pair)} {pr : Pair} {o : Obj} (S : SpS sts own pa ra pits rits dl (x :: ws) more ps rs)
    (l1 : @LT.lt Nat _ pa q) (l2 : @LT.lt Nat _ ra q) (l3 : AllLt q (dl ++ own)) (row : rowOf (x :: ws) = pr :: rowOf ws') (ok' : StOk ws') (hlt : (tlTxt ws' more).length < (tlTxt (x :: ws) more).length) (hsub : ∀ c ∈ tlTxt ws' more, c ∈ tlTxt (x :: ws) more) (hd : DatIn ((q, o) :: dl) (.ref q) (pairD pr)) :
    SpS sts own pa ra (pits ++ [.ref q]) rits ((q, o) :: dl) ws' more (ps ++ [pr]) rs := by
  obtain ⟨ne, odl, oown, oo, dp, dr, okw, okm, hsome, heq, lp, lr, hlen, hnq⟩ := S
  obtain ⟨l4, l5⟩ := AllLt.app l3
  refine ⟨ne, OwnOff.cons ?_ odl, oown, ?_, ?_, dr.mono fun p hp => .tail _ hp, ok', okm, .inl (by simp), ?_, ?_, ?_, ?_, fun c hc => hnq c (hsub c hc)⟩
  · intro b hb
    rcases List.mem_cons.mp hb with rfl | hb
    · exact Nat.ne_of_gt l1
    · rw [List.mem_singleton.mp hb]; exact Nat.ne_of_gt l2
  · intro p hp b hb
    rcases List.mem_cons.mp hb with rfl | hb
    · exact (AllLt.ne l5 p hp).symm
    · exact oo p hp b hb
  · rw [List.map_append]
    exact DatAll.append (dp.mono fun p hp => .tail _ hp) (DatAll.one hd)
  · rw [← heq, row]; simp
  · rw [List.length_append, List.length_singleton]; lia
  · lia
  · lia
theorem sub_w1 {q pa ra : Addr} {o oR : Obj} {z1 z2 : Addr × Obj} {pits : List Value} {kp : Nat} {dl own : List (Addr × Obj)} : ∀ p ∈ (pa, W.listOf (pits ++ [Value.ref q]).toArray (kp + 1)) :: (ra, oR) :: (((q, o) :: dl) ++ own), p ∈ (q, o) :: z1 :: z2 :: (pa, W.listOf (pits.toArray.push (Value.ref q)) (kp + 1)) :: (ra, oR) :: (dl ++ own) := by
  rw [← List.push_toArray]
  intro p hp
  simp only [List.mem_cons, List.mem_append, List.cons_append] at hp ⊢
  rcases hp with h | h | h | h | h <;> simp [h]
theorem sub_w2 {q pa ra : Addr} {o oR : Obj} {z1 z2 z3 z4 : Addr × Obj} {pits : List Value} {kp : Nat} {dl own : List (Addr × Obj)} : ∀ p ∈ (pa, W.listOf (pits ++ [Value.ref q]).toArray (kp + 1)) :: (ra, oR) :: (((q, o) :: dl) ++ own), p ∈ (q, o) :: z1 :: z2 :: z3 :: z4 :: (pa, W.listOf (pits.toArray.push (Value.ref q)) (kp + 1)) :: (ra, oR) :: (dl ++ own) := by
  rw [← List.push_toArray]
  intro p hp
  simp only [List.mem_cons, List.mem_append, List.cons_append] at hp ⊢
  rcases hp with h | h | h | h | h <;> simp [h]
theorem sp_fin {sts : List (List Wd)} {own : List (Addr × Obj)} {pa ra : Addr} {pits rits : List Value} {dl : List (Addr × Obj)} {ps : List Pair} {rs : List (List Pair)} (S : SpS sts own pa ra pits rits dl [] [] ps rs) (kp kr : Nat) {m : Str → Option Value} (hm : m (Str.ofString "result") = .some (.ref ra)) :
    SpJ sts (0 + 1) m ((ra, W.listOf (rits.toArray.push (.ref pa)) (kr + 1)) :: (pa, W.listOf pits.toArray kp) :: dl) ∧ OwnOff own (((ra, W.listOf (rits.toArray.push (.ref pa)) (kr + 1)) :: (pa, W.listOf pits.toArray kp) :: dl).map (·.1)) ∧
    (∀ p ∈ (ra, W.listOf (rits.toArray.push (.ref pa)) (kr + 1)) :: (pa, W.listOf pits.toArray kp) :: dl, p ∈ (pa, W.listOf pits.toArray kp) :: (ra, W.listOf (rits.toArray.push (.ref pa)) (kr + 1)) :: (dl ++ own)) ∧
    (∀ p ∈ own, p ∈ (pa, W.listOf pits.toArray kp) :: (ra, W.listOf (rits.toArray.push (.ref pa)) (kr + 1)) :: (dl ++ own)) := by
  obtain ⟨ne, odl, oown, oo, dp, dr, okw, okm, hsome, heq, lp, lr, hlen, hnq⟩ := S
  refine ⟨⟨ra, rits ++ [.ref pa], kr + 1, (pa, W.listOf pits.toArray kp) :: dl, by simp, ?_, ?_, hm⟩, ?_, ?_, ?_⟩
  · refine OwnOff.cons ?_ (OwnOff.sub odl (by simp))
    intro b hb; rw [List.mem_singleton.mp hb]; exact ne
  · have e : (sts.map fun st => rowD (rowOf st)) = rs.map rowD ++ [rowD ps] := by
      have : sts.map (fun st => rowD (rowOf st)) = (sts.map rowOf).map rowD := by rw [List.map_map]; rfl
      rw [this, ← heq]; simp [rowOf]
    rw [if_neg (by decide), e]
    refine DatAll.append (dr.mono fun p hp => .tail _ hp) (DatAll.one ?_)
    unfold rowD
    exact .list (.head _) (dp.mono fun p hp => .tail _ hp)
  · intro p hp b hb
    rcases List.mem_cons.mp hb with rfl | hb
    · exact oown p hp _ (by simp)
    · rcases List.mem_cons.mp hb with rfl | hb
      · exact oown p hp _ (by simp)
      · exact oo p hp b hb
  · intro p hp
    simp only [List.mem_cons, List.mem_append] at hp ⊢
    rcases hp with h | h | h <;> simp [h]
  · intro p hp; simp [hp]
end Mine
end
section
open PySem PySem.W PySem.Spec PySem.Calls PyProof.Rows
set_option maxRecDepth 100000
namespace Mine
open PyProof.Rows.LCg
/-- a list or a tuple of the base -/
inductive SeqB (h : Heap) (a : Addr) (its : Array Value) : Prop
  | list (x : h.IsList a its)
  | tup (x : h.IsTuple a its)
theorem SeqB.keeps {h h' : Heap} {a : Addr} {its : Array Value} (x : SeqB h a its) (k : Keeps h h') : SeqB h' a its := by
  cases x with
  | list x => exact .list (IsList.keeps x k)
  | tup x => obtain ⟨o, ho, r⟩ := x; exact .tup ⟨o, k _ _ ho, r⟩
section
variable {prog : Program} {w : World} {A : Around} {E : Value → Shared → Prop} {s : Shared} {h₀ : Heap} {L : Addr} {m : Str → Option Value} {env : Env}
def Rst (prog : Program) (w : World) (A : Around) (h₀ : Heap) (L : Addr) (m : Str → Option Value) (env : Env) (elt : PySem.Expr) (x : Str) (scope : Scope) (cl : List (Str × Addr)) (its : Array Value) (Fin : Shared → List Value → List (Addr × Obj) → Prop) (xv : Value) (s₁ : Shared) : Prop :=
  ∃ ax news, xv = .ref ax ∧ A.handled = none ∧ Fr h₀ L s₁.heap m ∧ News h₀ L s₁.heap news ∧ SeqB h₀ ax its ∧ its.size ≤ sizeLine ∧
    ∀ g, CompRest prog w A h₀ L m env elt x scope cl { s₁ with heap := g } (fun _ => True) (fun i v => its[i]? = some v) (Fin { s₁ with heap := g }) its.size 0 [] news
theorem Rst.of {elt : PySem.Expr} {x : Str} {scope : Scope} {cl : List (Str × Addr)} {its : Array Value} {Fin : Shared → List Value → List (Addr × Obj) → Prop} {ax : Addr} {news : List (Addr × Obj)} {s₁ : Shared} (hh : A.handled = none) (F : Fr h₀ L s₁.heap m) (N : News h₀ L s₁.heap news) (S : SeqB h₀ ax its) (hsz : its.size ≤ sizeLine)
    (h : ∀ g, CompRest prog w A h₀ L m env elt x scope cl { s₁ with heap := g } (fun _ => True) (fun i v => its[i]? = some v) (Fin { s₁ with heap := g }) its.size 0 [] news) : Rst prog w A h₀ L m env elt x scope cl its Fin (.ref ax) s₁ := ⟨ax, news, rfl, hh, F, N, S, hsz, h⟩
theorem blk {elt iter : PySem.Expr} {x : Str} {px : Pos} {scope : Scope} {cl : List (Str × Addr)} {pos : Pos} {s₁ : Shared} {its : Array Value} {Fin : Shared → List Value → List (Addr × Obj) → Prop} {xv : Value} {RR : Value → Addr → Result → Shared → Prop}
    (hcell : ∀ y ∈ scope.names, y.2 ≠ .cell) (hkind : scope.kind = .function) (hx : scope.names.lookup x = some .local) (h : Rst prog w A h₀ L m env elt x scope cl its Fin xv s₁)
    (hRR : ∀ g D C h tk m' ys news', Fr h₀ L h m → News h₀ L h ((D, lst ys) :: news') → Off1 D news' → h.Ns C m' → h₀.get? C = none → h₀.get? D = none → C ≠ L → D ≠ L → C ≠ D → (∀ p ∈ news', p.1 ≠ C) → Fin { s₁ with heap := g } ys news' → RR (.ref D) C (.ok .next) { s₁ with heap := h, toks := tk }) :
    wpAny (model prog w) A (pyIter xv) (fun it s₂ => wpAny (model prog w) A (newList []) (fun acc s₃ => wpAny (model prog w) A (newFunctionEnv scope env.globals cl [] env.qual none .none (some env)) (fun cenv s₄ =>
      codeAny (model prog w) A (.compStart (.ListComp elt [⟨.Name x px, iter, [], 0⟩] scope pos) 0 it acc { cenv with scope := relabel scope env }) (RR acc cenv.locals) s₄) E s₃) E s₂) E s₁ := by
  obtain ⟨ax, news, rfl, hh, F, N, S, hsz, R⟩ := h
  have up : ∀ o b o', s₁.heap.get? b = some o' → (s₁.heap.push o).get? b = some o' := fun o b o' e => Heap.get?_push_of_some _ e
  cases S with
  | list S =>
    have hl := IsList.keeps S F.keep
    have hlt : ax < s₁.heap.objs.size := by obtain ⟨_, e, _⟩ := hl; exact Heap.lt_size e
    refine wpAny_pyIter_list hl ?_
    refine block_U (S := fun _ => True) (Walks.list hh s₁.heap.objs.size ax (Nat.ne_of_lt hlt) its) hsz (fun i h st => by obtain ⟨o, e, _⟩ := st.1; exact ⟨o, e⟩)
      (fun i h h' o nw st e e' k _ _ => ⟨by obtain ⟨o', q, r⟩ := st.1; rw [e] at q; cases q; exact ⟨o, e', r⟩, IsList.keeps S k⟩) hcell hkind hx ⟨⟨_, Heap.get?_push_size _ rfl, rfl, rfl⟩, hl.push _⟩ (fun b hb => ?_)
      (F.keeps (up _)) (N.grown (up _)) (Nat.ne_of_lt F.ns.lt) (next_is_new F) (fun p hp => Nat.ne_of_lt (Heap.lt_size (N p hp).1)) trivial (R _) ?_
    · show b < (s₁.heap.push _).objs.size
      rw [Heap.size_push]
      rcases List.mem_cons.mp hb with rfl | hb
      · exact Nat.lt_succ_self _
      · rw [List.mem_singleton.mp hb]; exact Nat.lt_succ_of_lt hlt
    · intro D C h tk m' ys news' F' N' o1 hn hC₀ hD₀ hCL hDL hCD offC fin
      exact hRR _ D C h tk m' ys news' F' N' o1 hn hC₀ hD₀ hCL hDL hCD offC fin
  | tup S =>
    have hl : s₁.heap.IsTuple ax its := by obtain ⟨o, ho, r⟩ := S; exact ⟨o, F.keep _ _ ho, r⟩
    have hlt : ax < s₁.heap.objs.size := by obtain ⟨_, e, _⟩ := hl; exact Heap.lt_size e
    refine wpAny_pyIter_tuple hl ?_
    refine block_U (S := fun _ => True) (Walks.tuple hh s₁.heap.objs.size ax (Nat.ne_of_lt hlt) its) hsz (fun i h st => by obtain ⟨o, e, _⟩ := st.1; exact ⟨o, e⟩)
      (fun i h h' o nw st e e' k _ _ => ⟨by obtain ⟨o', q, r⟩ := st.1; rw [e] at q; cases q; exact ⟨o, e', r⟩, by obtain ⟨o', q, r⟩ := S; exact ⟨o', k _ _ q, r⟩⟩) hcell hkind hx ⟨⟨_, Heap.get?_push_size _ rfl, rfl, rfl⟩, hl.push _⟩ (fun b hb => ?_)
      (F.keeps (up _)) (N.grown (up _)) (Nat.ne_of_lt F.ns.lt) (next_is_new F) (fun p hp => Nat.ne_of_lt (Heap.lt_size (N p hp).1)) trivial (R _) ?_
    · show b < (s₁.heap.push _).objs.size
      rw [Heap.size_push]
      rcases List.mem_cons.mp hb with rfl | hb
      · exact Nat.lt_succ_self _
      · rw [List.mem_singleton.mp hb]; exact Nat.lt_succ_of_lt hlt
    · intro D C h tk m' ys news' F' N' o1 hn hC₀ hD₀ hCL hDL hCD offC fin
      exact hRR _ D C h tk m' ys news' F' N' o1 hn hC₀ hD₀ hCL hDL hCD offC fin
theorem comp_E {elt iter : PySem.Expr} {x : Str} {px : Pos} {scope : Scope} {cl : List (Str × Addr)} {pos : Pos} {its : Array Value} {Q : Value → Shared → Prop} (_F₀ : Fr h₀ L s.heap m)
    (hclos : closureFor scope env = pure cl) (hcell : ∀ y ∈ scope.names, y.2 ≠ .cell) (hkind : scope.kind = .function)
    (hnames : ∀ y ∈ scope.names, y.2 = .local → scope.names.lookup y.1 = some .local) (hx : scope.names.lookup x = some .local)
    (h : wpAny (model prog w) A (eval iter env) (Rst prog w A h₀ L m env elt x scope cl its (fun s₂ => FinE h₀ L m s₂ Q)) E s)
    (hs : ∀ x, foldedSetIterable iter env x = pure x := by intro _; rfl) :
    wpAny (model prog w) A (eval (.ListComp elt [⟨.Name x px, iter, [], 0⟩] scope pos) env) Q E s := by
  rw [eval_ListComp]
  refine wpAny_comprehension_free (use := none) rfl hs hclos hkind hnames (wpAny_mono h (fun xv s₁ h₁ => ?_) fun _ _ e => e)
  refine blk hcell hkind hx h₁ ?_
  intro g D C h tk m' ys news' F' N' o1 hn hC₀ hD₀ hCL hDL hCD offC fin
  refine ⟨m', hn, fun h'' hs'' => fin D h'' tk (F'.change hs'' hCL hC₀) (fun p hp => ?_) o1⟩
  refine ⟨hs''.extBut _ _ ?_ (N' p hp).1, (N' p hp).2⟩
  rcases List.mem_cons.mp hp with rfl | hp
  · exact Ne.symm hCD
  · exact offC p hp
theorem comp_A {elt iter : PySem.Expr} {x y : Str} {px py : Pos} {scope : Scope} {cl : List (Str × Addr)} {pos spos : Pos} {its : Array Value} {Q : Flow → Shared → Prop} (_F₀ : Fr h₀ L s.heap m) (hLe : env.locals = L)
    (hsw : swapsWith (.ListComp elt [⟨.Name x px, iter, [], 0⟩] scope pos) (some (.Name y py)) spos.line env = pure true)
    (hclos : closureFor scope env = pure cl) (hcell : ∀ z ∈ scope.names, z.2 ≠ .cell) (hkind : scope.kind = .function)
    (hnames : ∀ z ∈ scope.names, z.2 = .local → scope.names.lookup z.1 = some .local) (hx : scope.names.lookup x = some .local)
    (hy : env.kindOf y = some .local) (hp : (env.scope.kind == .class || (env.scope.kind == .module && env.locals != env.globals)) = false)
    (h : wpAny (model prog w) A (eval iter env) (Rst prog w A h₀ L m env elt x scope cl its (fun s₂ => FinA h₀ L m s₂ y Q)) E s)
    (hs : ∀ x, foldedSetIterable iter env x = pure x := by intro _; rfl) :
    wpAny (model prog w) A (exec (.Assign [.Name y py] (.ListComp elt [⟨.Name x px, iter, [], 0⟩] scope pos) spos) env) Q E s := by
  subst hLe
  rw [exec_Assign_Name_used _ _ _ _ hsw]
  refine wpAny_bind (wpAny_standAt (wpAny_bind ?_))
  show wpAny _ A (do let _ ← comprehension (.ListComp elt [⟨.Name x px, iter, [], 0⟩] scope pos) scope env _ (newList []) false (eval iter env) (some (assign (.Name y py) env))) _ _ s
  refine wpAny_bind (wpAny_mono (wpAny_comprehension_free (use := some (assign (.Name y py) env)) (Q := fun _ s' => Q .next s') rfl hs hclos hkind hnames
    (wpAny_mono h (fun xv s₁ h₁ => ?_) fun _ _ e => e)) (fun _ s' hq => wpAny_pure (wpAny_pure hq)) fun _ _ e => e)
  refine blk hcell hkind hx h₁ ?_
  intro g D C h' tk m' ys news' F' N' o1 hn hC₀ hD₀ hCL hDL hCD offC fin
  show wpAny _ A (assign (.Name y py) env (.ref D)) _ _ _
  refine wpAny_assign_Name (wpAny_storeName_local hy F'.ns (fun h₂ hn₂ hs₂ => ?_) hp)
  have hL₀ : h₀.get? env.locals = none := Heap.get?_none_of_le F'.above
  have F₂ : Fr h₀ env.locals h₂ (fun z => if z = y then some (.ref D) else m z) := ⟨hn₂, fun b o e => hs₂.extBut b o (fun q => by rw [q, hL₀] at e; cases e) (F'.keep b o e), F'.above⟩
  refine ⟨m', hn.sameBut hs₂ hCL, fun h'' hs'' => fin D h'' _ (F₂.change hs'' hCL hC₀) (fun p hp => ?_) o1⟩
  have z : h₂.get? p.1 = some p.2 := hs₂.extBut _ _ (N' p hp).2.1 (N' p hp).1
  refine ⟨hs''.extBut _ _ ?_ z, (N' p hp).2⟩
  rcases List.mem_cons.mp hp with rfl | hp
  · exact Ne.symm hCD
  · exact offC p hp
theorem comp_ind {elt : PySem.Expr} {x : Str} {scope : Scope} {cl : List (Str × Addr)} {S : List (Addr × Obj) → Prop} {P : Nat → Value → Prop} {Fin : List Value → List (Addr × Obj) → Prop} (J : Nat → List Value → List (Addr × Obj) → Prop) {n : Nat} {news₀ : List (Addr × Obj)}
    (h0 : J 0 [] news₀)
    (turn : ∀ i ys news v I oI C oC D m₂ h tk (E' : Value → Shared → Prop), i < n → P i v → J i ys news → NsObj oC m₂ → m₂ x = some v → Fr h₀ L h m → News h₀ L h ((I, oI) :: (C, oC) :: (D, lst ys) :: news) → Off3 I C D news → ((@Ne Nat I C) ∧ (@Ne Nat I D) ∧ (@Ne Nat C D)) →
      wpAny (model prog w) A (eval elt (compEnvC scope cl C env)) (CompEnd h₀ L m { s with heap := h, toks := tk } I oI C oC D (lst ys) S (fun y news' => J (i + 1) (ys ++ [y]) news')) E' { s with heap := h, toks := tk })
    (fin : ∀ ys news, J n ys news → Fin ys news) : CompRest prog w A h₀ L m env elt x scope cl s S P Fin n 0 [] news₀ := by
  have all : ∀ k i ys news, n = i + k → J i ys news → CompRest prog w A h₀ L m env elt x scope cl s S P Fin k i ys news := by
    intro k
    induction k with
    | zero =>
      intro i ys news hn hj
      rw [Nat.add_zero] at hn
      subst hn
      exact CompRest.zero (fin _ _ hj)
    | succ k ih =>
      intro i ys news hn hj
      refine CompRest.succ fun v I oI C oC D m₂ h tk E' hv hC hx F N off ne => ?_
      refine wpAny_mono (turn i ys news v I oI C oC D m₂ h tk E' (by lia) hv hj hC hx F N off ne) (fun y s₂ e => ?_) fun _ _ e => e
      obtain ⟨h', tk', news', rfl, F', N', off', hS, r⟩ := e
      exact ⟨h', tk', news', rfl, F', N', off', hS, ih (i + 1) _ _ (by lia) r⟩
  exact all n 0 [] news₀ (by lia) h0
end
end Mine
end
section
open PySem PySem.W PySem.Spec PySem.Calls PyProof.Rows
set_option maxRecDepth 100000
namespace Mine
open PyProof.Rows.LCg
inductive Tr where
  | leaf (b : Array UInt8)
  | node (ts : List Tr)
def seqD (d : Nat) (ds : List Dat) : Dat := if d % 2 = 1 then .tuple ds else .list ds
mutual
noncomputable def rawD : Tr → Dat
  | .leaf b => .bytes b
  | .node ts => .list (rawDs ts)
noncomputable def rawDs : List Tr → List Dat
  | [] => []
  | t :: ts => rawD t :: rawDs ts
end
mutual
noncomputable def srtD : Nat → Tr → Dat
  | _, .leaf b => .bytes b
  | d, .node ts => seqD d (srtDs (d + 1) ts)
noncomputable def srtDs : Nat → List Tr → List Dat
  | _, [] => []
  | d, t :: ts => srtD d t :: srtDs d ts
end
mutual
noncomputable def wriD (f : Array UInt8 → List Nat) : Nat → Tr → Dat
  | _, .leaf b => .str (sOf (f b))
  | d, .node ts => seqD d (wriDs f (d + 1) ts)
noncomputable def wriDs (f : Array UInt8 → List Nat) : Nat → List Tr → List Dat
  | _, [] => []
  | d, t :: ts => wriD f d t :: wriDs f d ts
end
noncomputable def joinT : List (List Nat) → List Nat
  | [] => []
  | [x] => x
  | x :: y :: r => x ++ (44 :: 32 :: joinT (y :: r))
noncomputable def bracT (d : Nat) (xs : List (List Nat)) : List Nat :=
  if d % 2 = 1 then 40 :: (joinT xs ++ ((if xs.length = 1 then [44] else []) ++ [41])) else 91 :: (joinT xs ++ [93])
mutual
noncomputable def tolT (f : Array UInt8 → List Nat) : Nat → Tr → List Nat
  | _, .leaf b => 39 :: (f b ++ [39])
  | d, .node ts => bracT d (tolTs f (d + 1) ts)
noncomputable def tolTs (f : Array UInt8 → List Nat) : Nat → List Tr → List (List Nat)
  | _, [] => []
  | d, t :: ts => tolT f d t :: tolTs f d ts
end
noncomputable def Le : Nat → Tr → Prop
  | _, .leaf b => b.size ≤ 5
  | 0, .node _ => False
  | n + 1, .node ts => ∀ t ∈ ts, Le n t
mutual
noncomputable def wt : Tr → Nat
  | .leaf _ => 1
  | .node ts => 1 + wts ts
noncomputable def wts : List Tr → Nat
  | [] => 0
  | t :: ts => wt t + wts ts
end
theorem rawDs_eq (ts : List Tr) : rawDs ts = ts.map rawD := by induction ts with | nil => rfl | cons t ts ih => rw [rawDs, ih]; rfl
theorem srtDs_eq (d : Nat) (ts : List Tr) : srtDs d ts = ts.map (srtD d) := by induction ts with | nil => rfl | cons t ts ih => rw [srtDs, ih]; rfl
theorem wriDs_eq (f) (d : Nat) (ts : List Tr) : wriDs f d ts = ts.map (wriD f d) := by induction ts with | nil => rfl | cons t ts ih => rw [wriDs, ih]; rfl
theorem tolTs_eq (f) (d : Nat) (ts : List Tr) : tolTs f d ts = ts.map (tolT f d) := by induction ts with | nil => rfl | cons t ts ih => rw [tolTs, ih]; rfl
theorem DatAll.at {news : List (Addr × Obj)} : ∀ {vs : List Value} {ds : List Dat}, DatAll news vs ds → ∀ {i : Nat} {v : Value}, vs[i]? = some v → ∃ d, ds[i]? = some d ∧ DatIn news v d
  | _, _, .nil, i, v, h => by simp at h
  | _, _, .cons (d := d) hd r, i, v, h => by
    cases i with
    | zero => simp at h; subst h; exact ⟨d, by simp, hd⟩
    | succ i => simp at h; obtain ⟨e, he, hi⟩ := DatAll.at r h; exact ⟨e, by simpa using he, hi⟩
/-- the end of a turn whose item is a call's new datum -/
theorem compEndD {h₀ h h' : Heap} {L I C D : Addr} {m m' : Str → Option Value} {s₁ : Shared} {oI oC oD : Obj} {fix tl : List (Addr × Obj)} {v : Value} {d : Dat} {ys : List Value} {ds : List Dat} {tk : Nat}
    (F : Fr h₀ L h m') (N : News h₀ L h ((I, oI) :: (C, oC) :: (D, oD) :: (fix ++ tl))) (F9 : Fr h₀ L h' m) (N9 : News h₀ L h' ((I, oI) :: (C, oC) :: (D, oD) :: (fix ++ tl))) (off : Off3 I C D (fix ++ tl)) (o : NewD d h h' v) (hD : DatAll tl ys ds) :
    CompEnd h₀ L m s₁ I oI C oC D oD (fun _ => True) (fun y news' => ∃ tl', news' = fix ++ tl' ∧ DatAll tl' (ys ++ [y]) (ds ++ [d])) v { s₁ with heap := h', toks := tk } := by
  obtain ⟨nw, f, hd⟩ := o
  have ho := Fresh.off N f
  refine CompEnd.intro F9 (News.app N9 (Fresh.news F f)) (fix ++ (tl ++ nw)) ?_ ?_ trivial ⟨tl ++ nw, rfl, ?_⟩
  · intro p hp; simpa using hp
  · refine Off3.of fun p hp => ?_
    rw [← List.append_assoc] at hp
    rcases List.mem_append.mp hp with hp | hp
    · exact Off3.mem off p hp
    · exact ⟨ho p hp _ (by simp), ho p hp _ (by simp), ho p hp _ (by simp)⟩
  · exact DatAll.append (hD.mono fun p hp => List.mem_append.mpr (.inl hp)) (DatAll.one (hd.mono fun p hp => List.mem_append.mpr (.inr hp)))
theorem wts_len (ts : List Tr) : ts.length ≤ wts ts := by
  induction ts with
  | nil => exact Nat.zero_le _
  | cons t ts ih =>
    rw [wts, List.length_cons]
    have : 1 ≤ wt t := by cases t <;> rw [wt] <;> lia
    lia
theorem wt_mem {t : Tr} {ts : List Tr} (h : t ∈ ts) : wt t ≤ wts ts := by
  induction ts with
  | nil => cases h
  | cons a ts ih =>
    rw [wts]
    rcases List.mem_cons.mp h with rfl | h
    · lia
    · have := ih h; lia
end Mine
end
section
open PySem PySem.W PySem.Spec PySem.Calls PyProof.Rows
set_option maxRecDepth 100000
namespace Mine
theorem enterC {w : World} {k : Nat} {Pre : Heap → Prop} {Out : Heap → Heap → Value → Prop} {name qual : Str} {params : Arguments} {body : List Stmt} {scope : Scope} {dV kV doc pm cdv ct oc : Value} {an od : Option Addr} {osl : Array (Option Value)} {f : Addr} {pos : List Value} {kw : List (Str × Value)} (binds : List (Str × Value))
    (ho : (Mine.hd.heap_39 w.params).lookup f = some ⟨oc, od, .func (fnOf name qual params body scope dV kV doc pm an cdv ct), osl⟩) (hcd : codeIn (Mine.hd.heap_39 w.params) cdv qual = true) (hroom : (LA k).depth < recursionLimit)
    (hbind : ∀ s, Kn w s.heap → BindsTo s (fnOf name qual params body scope dV kV doc pm an cdv ct) ⟨pos, kw⟩ binds)
    (hkind : (binds.all fun y => scope.names.lookup y.1 == some .local || scope.names.lookup y.1 == some .cell) = true) (hnd : ((cellsFrom 0 scope.names []).map (·.1)).Nodup)
    (h : ∀ (s : Shared) p loose mg mb L' h₁ tk cells, Pre s.heap → Fr s.heap L' h₁ (bindL (envOfC qual scope L' f cdv).kindOf binds fun _ => none) → News s.heap L' h₁ cells → CellsAre (bindC (envOfC qual scope L' f cdv).kindOf binds fun _ => none) (cellsFrom (L' + 1) scope.names []) cells →
      (Mine.hd.heap_39 w.params).In s.heap → TopRead p loose mg mb s.heap → ∀ P : Value → Shared → Prop, (∀ v s', Done s Out v s' → P v s') →
      wpAny (model prg w) ((LA k).deeper (envOfC qual scope L' f cdv)) (execs body (envOfC qual scope L' f cdv))
        (fun fl s' => P (match fl with | .ret v => v | _ => .none) s') (fun _ _ => False)
        { s with heap := h₁, toks := tk })
    (hco : scope.isCoroutine = false) (hgen : scope.isGenerator = false) (hk : scope.kind = .function) : PureC w k f pos kw Pre Out := by
  intro A s Q E kn lo pre ret
  refine lo.weak ?_
  have hb := hbind s kn
  obtain ⟨X, p, loose, mg, mb, T⟩ := kn
  refine wpAny_call ?_
  refine codeAny_call_function hroom (X _ _ ho) rfl hco hgen rfl (codeRec_of X hcd) (hb _ _ _ _ ?_)
  refine wpAny_newFunctionEnv_cells hk (kindsX hkind _) fun env' he s' x => ?_
  subst he
  refine ⟨T.nolimit.keeps x.toInCall.keep, codeAny_func ?_⟩
  obtain ⟨h₁, tk, rfl, _⟩ := x.done
  have hk₁ := x.toInCall.keep
  obtain ⟨cells, NC, Y⟩ := Cl.news (h₀ := s.heap) (Nat.le_refl _) fun n c hm => ⟨x.cell n c (lookup_of_mem_nodup (cellsFrom_names scope.names 0 (s.heap.objs.size + 1) [] [] rfl ▸ hnd) hm), x.above n c hm⟩
  refine wpAny_mono (h s p loose mg mb _ h₁ _ cells pre ⟨x.toInCall.ns, hk₁, Nat.le_refl _⟩ NC Y X T _ fun _ _ d => d) (fun fl s' hl => ?_) fun _ _ y => y.elim
  obtain ⟨h', tk, rfl, hk, ho⟩ := hl
  exact ret _ h' tk hk ho
theorem fmod2 (d : Nat) : Int.fmod (d : Int) 2 = 1 ↔ d % 2 = 1 := by
  rw [Int.fmod_eq_emod_of_nonneg _ (by decide)]; lia
theorem seq_tup {news : List (Addr × Obj)} {d : Nat} {ds : List Dat} {vs : List Value} {n : Nat} {q : Addr} (h : d % 2 = 1) (hm : (q, ({ cls := .type "tuple", data := .seq vs.toArray n } : Obj)) ∈ news) (hd : DatAll news vs ds) : DatIn news (.ref q) (seqD d ds) := by
  unfold seqD; rw [if_pos h]; exact .tuple hm hd
theorem seq_lst {news : List (Addr × Obj)} {d : Nat} {ds : List Dat} {vs : List Value} {n : Nat} {q : Addr} (h : ¬ d % 2 = 1) (hm : (q, W.listOf vs.toArray n) ∈ news) (hd : DatAll news vs ds) : DatIn news (.ref q) (seqD d ds) := by
  unfold seqD; rw [if_neg h]; exact .list hm hd
theorem loD {k j : Nat} (hj : j < k) (hk : k ≤ 40) (env : Env) : Lo j ((LA k).deeper env) := by
  refine ⟨rfl, rfl, ?_, ?_⟩
  · show (900 - 10 * k) + 1 ≤ 900 - 10 * j; lia
  · show (9000 - 100 * k) + _ ≤ 9000 - 100 * j; lia
theorem AtD.list {h : Heap} {v : Value} {ds : List Dat} (a : AtD h v (.list ds)) : ∃ (ax : Addr) (vs : List Value) (n : Nat) (nw : List (Addr × Obj)), v = .ref ax ∧ h.get? ax = some (W.listOf vs.toArray n) ∧ (∀ p ∈ nw, h.get? p.1 = some p.2) ∧ DatAll nw vs ds := by
  obtain ⟨nw, hnw, hd⟩ := a
  cases hd with
  | list hm hall => exact ⟨_, _, _, nw, rfl, hnw _ hm, hnw, hall⟩
theorem AtD.tuple {h : Heap} {v : Value} {ds : List Dat} (a : AtD h v (.tuple ds)) : ∃ (ax : Addr) (vs : List Value) (n : Nat) (nw : List (Addr × Obj)), v = .ref ax ∧ h.get? ax = some { cls := .type "tuple", data := .seq vs.toArray n } ∧ (∀ p ∈ nw, h.get? p.1 = some p.2) ∧ DatAll nw vs ds := by
  obtain ⟨nw, hnw, hd⟩ := a
  cases hd with
  | tuple hm hall => exact ⟨_, _, _, nw, rfl, hnw _ hm, hnw, hall⟩
theorem AtD.bytes {h : Heap} {v : Value} {b : Array UInt8} (a : AtD h v (.bytes b)) : ∃ t, v = .bytes b t := by
  obtain ⟨nw, hnw, hd⟩ := a
  cases hd with
  | bytes _ t => exact ⟨t, rfl⟩
theorem AtD.str {h : Heap} {v : Value} {x : Str} (a : AtD h v (.str x)) : ∃ t, v = .str x t := by
  obtain ⟨nw, hnw, hd⟩ := a
  cases hd with
  | str _ t => exact ⟨t, rfl⟩
end Mine
end
section
open PySem PySem.W PySem.Spec PySem.Calls PyProof.Rows
set_option maxRecDepth 100000
namespace Mine
section
variable {prog : Program} {w : World} {A : Around} {E : Value → Shared → Prop} {s : Shared} {env : Env} {h₀ : Heap} {target : PySem.Expr} {body : List Stmt} {Q : Flow → Shared → Prop}
/-- a for loop with any target, by an invariant; its turn begins at the target's assignment -/
def GenAt (prog : Program) (w : World) (A : Around) (h₀ : Heap) (env : Env) (target : PySem.Expr) (body : List Stmt) (Q : Flow → Shared → Prop) (E : Value → Shared → Prop) (it : Value) (s₂ : Shared) : Prop :=
  ∃ (I : Addr) (fp wr : List Addr) (n : Nat) (P : Nat → Value → Prop) (St : Nat → Heap → Prop) (m : Str → Option Value) (news : List (Addr × Obj)) (J : Nat → (Str → Option Value) → List (Addr × Obj) → Prop),
    it = .ref I ∧ Walks prog w A I fp wr n P St ∧ env.locals ∉ fp ∧ (∀ b ∈ wr, h₀.get? b = none) ∧ (∀ p ∈ news, p.1 ∉ wr) ∧ St 0 s₂.heap ∧ Fr h₀ env.locals s₂.heap m ∧ News h₀ env.locals s₂.heap news ∧ J 0 m news ∧
    (∀ i v m₁ news₁ s₁ own, (∃ h tk, s₁ = { s₂ with heap := h, toks := tk }) → i < n → P i v → J i m₁ news₁ → (∀ p ∈ news₁, p.1 ∉ wr) → (∀ p ∈ own, p.1 ∈ fp) → (∀ b ∈ fp, h₀.get? b = none → ∀ o, s₁.heap.get? b = some o → (b, o) ∈ own) → St (i + 1) s₁.heap →
      Fr h₀ env.locals s₁.heap m₁ → News h₀ env.locals s₁.heap (own ++ news₁) →
      wpAny (model prog w) A (letOwnedTupleGo target (.ref I) v) (fun _ s' => wpAny (model prog w) A (assign target env v) (fun _ s'' => wpAny (model prog w) A (execs body env) (LoopStepV h₀ env.locals wr own (J (i + 1)) s₁ (fun v s' => Q (.ret v) s') fun s' => Q .next s') E s'') E s') E s₁) ∧
    ∀ h' tk m' news', Fr h₀ env.locals h' m' → News h₀ env.locals h' news' → (∀ p ∈ news', p.1 ∉ wr) → J n m' news' → Q .next { s₂ with heap := h', toks := tk }
theorem For_gen {pos : Pos} {iter : PySem.Expr}
    (h : wpAny (model prog w) A (eval iter env) (fun xv s₁ => wpAny (model prog w) A (pyIter xv) (fun it s₂ => GenAt prog w A h₀ env target body Q E it s₂) E s₁) E s)
    (hs : ∀ x, foldedSetIterable iter env x = pure x := by intro _; rfl)
    (hE : PassesOwn (model prog w) A env E := by passes_own) : wpAny (model prog w) A (exec (.For target iter body [] pos) env) Q E s := by
  refine wpAny_For (wpAny_mono h (fun xv s₁ h₁ => wpAny_mono h₁ (fun it s₂ h₂ => ?_) fun _ _ e => e) fun _ _ e => e) hs
  obtain ⟨I, fp, wr, n, P, St, m, news, J, rfl, W, hLf, hwr, hnw, hst, F, N, h0, step, hQ⟩ := h₂
  have hLw : env.locals ∉ wr := fun h => hLf (W.sub _ h)
  have old : ∀ b o, h₀.get? b = some o → b ∉ wr := fun b o e hb => by rw [hwr b hb] at e; cases e
  refine codeAny_forLoop_any
    (fun k s' => ∃ h' tk m' news' i, s' = { s₂ with heap := h', toks := tk } ∧ St i h' ∧ Fr h₀ env.locals h' m' ∧ News h₀ env.locals h' news' ∧ (∀ p ∈ news', p.1 ∉ wr) ∧ J i m' news' ∧ i ≤ n ∧ k = n + 1 - i) ?_ (n + 1)
    ⟨s₂.heap, s₂.toks, m, news, 0, rfl, hst, F, N, hnw, h0, Nat.zero_le _, rfl⟩
  rintro k s' ⟨h', tk, m', news', i, rfl, hst', F', N', hnw', hJ, hi, rfl⟩
  have next : ∀ h₁ : Heap, (∀ b o, b ∉ wr → h'.get? b = some o → h₁.get? b = some o) → Fr h₀ env.locals h₁ m' ∧ News h₀ env.locals h₁ news' := fun h₁ hk₁ =>
    ⟨⟨F'.ns.at' fun o e => hk₁ _ o hLw e, fun b o e => hk₁ b o (old b o e) (F'.keep b o e), F'.above⟩, fun p hp => ⟨hk₁ _ _ (hnw' p hp) (N' p hp).1, (N' p hp).2⟩⟩
  by_cases hlt : i < n
  · refine W.item i _ _ _ hlt hst' fun v h₁ tk₁ hP hst₁ hk₁ => ?_
    obtain ⟨F₁, N₁⟩ := next h₁ hk₁
    have Nown : News h₀ env.locals h₁ (ownOf h₀ fp h₁) := news_ownOf hLf
    have st := step i v m' news' { s₂ with heap := h₁, toks := tk₁ } (ownOf h₀ fp h₁) ⟨_, _, rfl⟩ hlt hP hJ hnw' ownOf_sub (fun b hb hn o e => mem_ownOf hb hn e) hst₁ F₁ (Nown.append N₁)
    have fin : ∀ s₃ h₃', (∃ tk₃ m₂ news₂, s₃ = { s₂ with heap := h₃', toks := tk₃ } ∧ Fr h₀ env.locals h₃' m₂ ∧ News h₀ env.locals h₃' (ownOf h₀ fp h₁ ++ news₂) ∧ (∀ p ∈ news₂, p.1 ∉ wr) ∧ J (i + 1) m₂ news₂) →
        ∃ k', k' < n + 1 - i ∧ ∃ h' tk m' news' i, s₃ = { s₂ with heap := h', toks := tk } ∧ St i h' ∧ Fr h₀ env.locals h' m' ∧ News h₀ env.locals h' news' ∧ (∀ p ∈ news', p.1 ∉ wr) ∧ J i m' news' ∧ i ≤ n ∧ k' = n + 1 - i := by
      rintro s₃ h₃' ⟨tk₃, m₂, news₂, rfl, F₃, N₃, ha₃, hJ₃⟩
      refine ⟨n + 1 - (i + 1), by lia, h₃', tk₃, m₂, news₂, i + 1, rfl, ?_, F₃, N₃.right, ha₃, hJ₃, hlt, rfl⟩
      refine W.frame _ _ _ hst₁ fun b hb o e => ?_
      cases hn : h₀.get? b with
      | some o₀ =>
        have : o₀ = o := by have := F₁.keep b o₀ hn; rw [e] at this; exact (Option.some.inj this).symm
        exact this ▸ F₃.keep b o₀ hn
      | none => exact (N₃ _ (List.mem_append_left _ (mem_ownOf hb hn e))).1
    refine wpAny_passesOwn hE (wpAny_mono st (fun _ s₃ h₃ => wpAny_passesOwn hE (wpAny_mono h₃ (fun _ s₄ h₄ => wpAny_passesOwn hE (wpAny_mono h₄ (fun f s₅ h₅ => ?_) fun _ _ e => e)) fun _ _ e => e)) fun _ _ e => e)
    cases f with
    | ret v => exact h₅
    | brk => exact h₅
    | cont =>
      obtain ⟨_, h₃', tk₃, m₂, news₂, rfl, F₃, N₃, ha₃, hJ₃⟩ := h₅
      exact fin _ h₃' ⟨tk₃, m₂, news₂, rfl, F₃, N₃, ha₃, hJ₃⟩
    | next =>
      obtain ⟨_, h₃', tk₃, m₂, news₂, rfl, F₃, N₃, ha₃, hJ₃⟩ := h₅
      exact fin _ h₃' ⟨tk₃, m₂, news₂, rfl, F₃, N₃, ha₃, hJ₃⟩
  · have hin : i = n := by lia
    subst hin
    refine W.done _ _ _ hst' fun h₁ tk₁ hk₁ => wpAny_execs_nil ?_
    obtain ⟨F₁, N₁⟩ := next h₁ hk₁
    exact hQ h₁ tk₁ m' news' F₁ N₁ hnw' hJ
theorem genG {I : Addr} {fp wr : List Addr} {n : Nat} {P : Nat → Value → Prop} {St : Nat → Heap → Prop} {m₀ : Str → Option Value} {news : List (Addr × Obj)} (J : Nat → (Str → Option Value) → List (Addr × Obj) → Prop)
    (W : Walks prog w A I fp wr n P St) (hLf : env.locals ∉ fp) (hwr : ∀ b ∈ wr, h₀.get? b = none) (hpres : ∀ i h, St i h → ∀ b ∈ fp, h₀.get? b = none → ∃ o, h.get? b = some o) (hnf : ∀ p ∈ news, p.1 ∉ fp)
    (hst : St 0 s.heap) (F : Fr h₀ env.locals s.heap m₀) (N : News h₀ env.locals s.heap news) (hj : J 0 m₀ news)
    (turn : ∀ i v m₁ nx h tk own, i < n → P i v → St (i + 1) h → OwnOff own (nx.map (·.1)) → J i m₁ nx → Fr h₀ env.locals h m₁ → News h₀ env.locals h (nx ++ own) →
      wpAny (model prog w) A (letOwnedTupleGo target (.ref I) v) (fun _ s' => wpAny (model prog w) A (assign target env v) (fun _ s'' => wpAny (model prog w) A (execs body env) (InvPostG h₀ env.locals (J (i + 1)) own { s with heap := h, toks := tk } Q) E s'') E s') E { s with heap := h, toks := tk })
    (done : ∀ m₁ nx h tk, J n m₁ nx → Fr h₀ env.locals h m₁ → News h₀ env.locals h nx → Q .next { s with heap := h, toks := tk }) :
    GenAt prog w A h₀ env target body Q E (.ref I) s := by
  refine ⟨I, fp, wr, n, P, St, m₀, news, (fun i m nx => J i m nx ∧ ∀ p ∈ nx, p.1 ∉ fp), rfl, W, hLf, hwr, (fun p hp hq => hnf p hp (W.sub _ hq)), hst, F, N, ⟨hj, hnf⟩, ?_, ?_⟩
  · rintro i v m₁ nx s₁ own ⟨hh', tk', rfl⟩ hin hP ⟨hJ, hnx⟩ hoff hown hfp hst' F₁ N₁
    have hcov : ∀ b ∈ fp, h₀.get? b = none → ∃ o, (b, o) ∈ own := fun b hb hn => by
      obtain ⟨o, ho⟩ := hpres _ _ hst' b hb hn
      exact ⟨o, hfp b hb hn o ho⟩
    have hsep : OwnOff own (nx.map (·.1)) := by
      intro p hp b hb e
      obtain ⟨q, hq, rfl⟩ := List.mem_map.mp hb
      exact hnx q hq (e ▸ hown p hp)
    have N₂ : News h₀ env.locals hh' (nx ++ own) := fun p hp => N₁ p ((List.mem_append.mp hp).elim (fun h => List.mem_append.mpr (.inr h)) fun h => List.mem_append.mpr (.inl h))
    refine wpAny_mono (turn i v m₁ nx hh' tk' own hin hP hst' hsep hJ F₁ N₂) (fun _ s₃ h₃ => wpAny_mono h₃ (fun _ s₄ h₄ => wpAny_mono h₄ (fun f s₂ p => ?_) fun _ _ e => e) fun _ _ e => e) fun _ _ e => e
    have fin : InvEndG h₀ env.locals (J (i + 1)) own { s with heap := hh', toks := tk' } s₂ → LoopStepU h₀ env.locals wr own (fun m nx => J (i + 1) m nx ∧ ∀ p ∈ nx, p.1 ∉ fp) { s with heap := hh', toks := tk' } .next s₂ := by
      rintro ⟨h', tk, m', news', nx', e, F', N', hn, ho, ha, hm⟩
      have hnf' : ∀ p ∈ nx', p.1 ∉ fp := fun p hp hq => by
        obtain ⟨o, ho'⟩ := hcov p.1 hq (N' p (hn p hp)).2.2
        exact ha _ ho' p.1 (List.mem_map.mpr ⟨p, hp, rfl⟩) rfl
      exact ⟨rfl, h', tk, m', nx', e, F', (fun p hp => N' p ((List.mem_append.mp hp).elim (ho p) (hn p))), (fun p hp hq => hnf' p hp (W.sub _ hq)), hm, hnf'⟩
    cases f with
    | ret v => exact .ret p
    | brk => exact .brk p
    | next => exact .next (fin p)
    | cont => exact .cont (fin p)
  · rintro h' tk m' news' F' N' _ ⟨hJ, _⟩
    exact done m' news' h' tk hJ F' N'
theorem let_list {M : Model} {I ax : Addr} {j : Nat} {v : Value} {t : PySem.Expr} {Q : Unit → Shared → Prop} (hI : s.heap.IsListIter I ax j) (h : Q () s) : wpAny M A (letOwnedTupleGo t (.ref I) v) Q E s := by
  obtain ⟨o, ho, hc, hd⟩ := hI
  have hcls : (["enumerate", "zip", "dict_itemiterator", "dict_reverseitemiterator", "odict_iterator", "itertools.zip_longest", "itertools.pairwise"] : List String).contains "list_iterator" = false := by decide
  cases t <;> cases v <;> first
    | exact wpAny_pure h
    | (unfold letOwnedTupleGo
       refine wpAny_bind (wpAny_load ho ?_)
       rw [hc, hd]
       dsimp only
       rw [hcls]
       exact wpAny_pure h)
theorem gen_list {ax : Addr} {items : Array Value} {m₀ : Str → Option Value} {news : List (Addr × Obj)} (J : Nat → (Str → Option Value) → List (Addr × Obj) → Prop)
    (hh : A.handled = none) (hl : s.heap.IsList ax items) (hL : ax ≠ env.locals) (F : Fr h₀ env.locals s.heap m₀) (N : News h₀ env.locals s.heap news) (hax : ∀ p ∈ news, p.1 ≠ ax) (hj : J 0 m₀ news)
    (turn : ∀ i v m₁ nx h tk own, items[i]? = some v → OwnOff own (nx.map (·.1)) → J i m₁ nx → Fr h₀ env.locals h m₁ → News h₀ env.locals h (nx ++ own) →
      wpAny (model prog w) A (assign target env v) (fun _ s'' => wpAny (model prog w) A (execs body env) (InvPostG h₀ env.locals (J (i + 1)) own { s with heap := h, toks := tk } Q) E s'') E { s with heap := h, toks := tk })
    (done : ∀ m₁ nx h tk, J items.size m₁ nx → Fr h₀ env.locals h m₁ → News h₀ env.locals h nx → Q .next { s with heap := h, toks := tk }) :
    wpAny (model prog w) A (pyIter (.ref ax)) (fun it s₂ => GenAt prog w A h₀ env target body Q E it s₂) E s := by
  obtain ⟨ol, hol, _⟩ := id hl
  have hne : ax ≠ s.heap.objs.size := Nat.ne_of_lt (Heap.lt_size hol)
  refine wpAny_pyIter_list hl ?_
  refine genG (s := { s with heap := _ }) J (Walks.list hh s.heap.objs.size ax hne items) ?_ ?_ ?_ ?_ ⟨⟨_, Heap.get?_push_size _ rfl, rfl, rfl⟩, hl.at fun o e => Heap.get?_push_of_some _ e⟩ (F.push _) (fun p hp => ⟨Heap.get?_push_of_some _ (N p hp).1, (N p hp).2⟩) hj ?_ done
  · intro hm
    rcases List.mem_cons.mp hm with e | hm
    · exact absurd F.ns.lt (e ▸ Nat.lt_irrefl _)
    · exact hL (List.mem_singleton.mp hm).symm
  · intro b' hb; rw [List.mem_singleton.mp hb]; exact next_is_new F
  · rintro i h ⟨⟨o, ho, _⟩, o', ho', _⟩ b' hb _
    rcases List.mem_cons.mp hb with rfl | hm
    · exact ⟨o, ho⟩
    · rw [List.mem_singleton.mp hm]; exact ⟨o', ho'⟩
  · intro p hp hI
    rcases List.mem_cons.mp hI with e | hm
    · exact absurd (Heap.lt_size (N p hp).1) (e ▸ Nat.lt_irrefl _)
    · exact hax p hp (List.mem_singleton.mp hm)
  · rintro i v m₁ nx h tk own hi hP hst hoff hJ F₁ N₁
    exact let_list hst.1 (turn i v m₁ nx h tk own hP hoff hJ F₁ N₁)
end
end Mine
end
section
open PySem PySem.W PySem.Spec PySem.Calls PyProof.Rows
namespace Mine
open PyProof.Rows.LCg
set_option maxRecDepth 100000
set_option maxHeartbeats 8000000
theorem kw_Srt_0 : True := by
  k_with_none
  trivial
theorem kw_Srt_1 : True := by
  (k_with "execs cons" => ((with_reducible show wpAny _ _ (execs (_ :: _) _) _ _ ⟨_, _, _, HAdd.hAdd _ _, _⟩); (try dsimp only); refine dropT ?_; intro tk9))
  (k_with "enterC" => ((case h1 => k_is); (case h2 => k_is); (case h3 => first | decide | (show 900 - 10 * _ < 1000; omega)); (case h4 => first | exact fun _ _ => BindsTo.of_eq rfl | exact fun _ kn => kp_binds kn.X (fun _ => rfl)); (case h5 => exact rfl); (case c5 => decide +kernel);  (case c2 => exact rfl); (case c3 => exact rfl); (case c4 => exact rfl)))
  (k_with "exec Assign cons ListComp" => refine Hold.mk ?_)
  (k_with "call ref" => ((with_reducible show wpAny _ _ (call (Value.ref 171) _ _) _ _ _); refine Hold.mk ?_))
  (k_with "call type:tuple" => (refine' kde_tupleOf ?k1 ?k2 ?k3 ?k4 rfl ?_; (case k1 => k_asm); (case k2 => k_asm); (case k3 => exact News.isList (by k_asm) (by k_mem)); (case k4 => assumption); intro D' h' F' N' l1))
  trivial
theorem srt_spec (w : World) : ∀ (n : Nat) (t : Tr) (d : Nat) (v : Value) (u : Tok), n ≤ 8 → Le n t → wt t ≤ 1000 →
   PureC w (n + 1) 171 [v, .int (d : Int) u] [] (fun h => AtD h v (rawD t)) (NewD (srtD d t)) := by
  have leaf : ∀ (n : Nat) (b : Array UInt8) (d : Nat) (v : Value) (u : Tok), n ≤ 8 → PureC w (n + 1) 171 [v, .int (d : Int) u] [] (fun h => AtD h v (rawD (.leaf b))) (NewD (srtD d (.leaf b))) := by
    intro n b d v u hn
    refine' enterC [(Str.ofString "thing", v), (Str.ofString "depth", .int (d : Int) u)] ?h1 ?h2 ?h3 ?h4 ?h5 ?c5 ?_ ?c2 ?c3 ?c4
    walk_at "enterC"
    intro s p' loose' mg' mb' L' h' tk' cells' pre' F' N' Y' X' T' P' hP'
    k_cells Y'
    rw [rawD] at pre'
    obtain ⟨tb, rfl⟩ := AtD.bytes pre'
    k_steps
    exact hP' _ _ (Done.intro (by assumption) ⟨[], Fresh.nil, .bytes _ _⟩)
  intro n
  induction n with
  | zero =>
    intro t d v u hn hle hwt
    cases t with
    | node ts => exact hle.elim
    | leaf b => exact leaf 0 b d v u hn
  | succ n ih =>
    intro t d v u hn hle hwt
    cases t with
    | leaf b => exact leaf (n + 1) b d v u hn
    | node ts =>
      refine' enterC [(Str.ofString "thing", v), (Str.ofString "depth", .int (d : Int) u)] ?h1 ?h2 ?h3 ?h4 ?h5 ?c5 ?_ ?c2 ?c3 ?c4
      walk_at "enterC"
      intro s p' loose' mg' mb' L' h' tk' cells' pre' F' N' Y' X' T' P' hP'
      k_cells Y'
      rw [rawD] at pre'
      obtain ⟨ax, vs, nn, nw, rfl, hget, hnw, hall⟩ := AtD.list pre'
      have hl : s.heap.IsList ax vs.toArray := ⟨_, hget, rfl, _, rfl⟩
      k_steps
      unfold Hold
      (rename Fr _ _ _ _ => F1)
      refine comp_A (its := vs.toArray) F1 rfl (by with_unfolding_all rfl) (by with_unfolding_all rfl) (by decide) (by rfl) (by decide) (by rfl) (by rfl) (by rfl) ?_
      k_steps
      have hlen := DatAll.length hall
      rw [rawDs_eq, List.length_map] at hlen
      have hwl : vs.length ≤ 1000 := by have := wts_len ts; rw [wt] at hwt; lia
      (rename News _ _ _ _ => N1)
      refine Rst.of rfl (by assumption) N1 (.list hl) (by rw [List.size_toArray, sizeLine_eq]; lia) fun g => ?_
      refine comp_ind (fun i ys news => ∃ tl, news = [_] ++ tl ∧ DatAll tl ys ((ts.take i).map (srtD (d + 1)))) ⟨[], rfl, DatAll.nil⟩ ?_ ?_
      · intro i ys news v I' oI' C' oC' D' m' h' tk' E' hi hv hj hC' hx' F' N' off' ne'
        obtain ⟨tl, rfl, hD⟩ := hj
        obtain ⟨dv, hdv, hin⟩ := DatAll.at hall (by simpa using hv)
        rw [rawDs_eq, List.getElem?_map] at hdv
        obtain ⟨ti, hti, rfl⟩ := Option.map_eq_some_iff.mp hdv
        have hmem := List.mem_of_getElem? hti
        have ihh : ∀ u, PureC w (n + 1) 171 [v, .int ((d : Int) + 1) u] [] (fun h => AtD h v (rawD ti)) (NewD (srtD (d + 1) ti)) := fun u => ih ti (d + 1) v u (by lia) (hle ti hmem) (by have := wt_mem hmem; rw [wt] at hwt; lia)
        k_steps
        unfold Hold
        (rename Fr _ _ _ _ => F2); (rename News _ _ _ _ => N2)
        refine PureC.use (ihh _) F2 N2 (by assumption) (by assumption) (loD (by lia) (by lia) _) ⟨nw, fun p hp => F2.keep _ _ (hnw p hp), hin⟩ ?_
        intro v9 h9 tk9 F9 N9 k9 o9
        k_unfold
        rw [show (ts.take (i + 1)).map (srtD (d + 1)) = (ts.take i).map (srtD (d + 1)) ++ [srtD (d + 1) ti] by rw [List.take_add_one, hti]; simp]
        exact compEndD (fix := [_]) F2 N2 F9 N9 off' o9 hD
      · intro ys news hj
        obtain ⟨tl, rfl, hD⟩ := hj
        rw [List.size_toArray, hlen, List.take_length] at hD
        have hyl : ys.toArray.size ≤ 16384 := by have := DatAll.length hD; rw [List.length_map] at this; rw [List.size_toArray]; lia
        unfold FinA
        intro D9 h9 tk9 F9 N9 o9
        k_steps
        · rename _ = (1 : Int) => hf
          (rename News _ _ _ _ => N3)
          refine hP' _ _ (Done.intro (by assumption) (NewD.of N3 ?_))
          rw [srtD, srtDs_eq]
          exact seq_tup ((fmod2 d).mp hf) (.head _) (hD.mono fun p hp => by simp [hp])
        · rename ¬ _ = (1 : Int) => hf
          (rename News _ _ _ _ => N3)
          refine hP' _ _ (Done.intro (by assumption) (NewD.of N3 ?_))
          rw [srtD, srtDs_eq]
          exact seq_lst (fun e => hf ((fmod2 d).mpr e)) (.head _) (hD.mono fun p hp => by simp [hp])
end Mine
end
section
open PySem PySem.W PySem.Spec PySem.Calls PyProof.Rows
set_option maxRecDepth 100000
namespace Mine
/-- the open lists outside the innermost: addresses, what they hold ahead of the next one -/
inductive Chain (tl : List (Addr × Obj)) (a0 : Addr) : Nat → List (Addr × Obj) → List Value → Addr → List (List Tr) → Prop
  | root : Chain tl a0 0 [] [] a0 []
  | up {d : Nat} {ofs : List (Addr × Obj)} {refs vs : List Value} {a am : Addr} {ts : List Tr} {k : Nat} {tss : List (List Tr)} (c : Chain tl a0 d ofs refs a tss) (hd : DatAll tl vs (rawDs ts)) (hle : ∀ t ∈ ts, Le (3 - d) t) :
      Chain tl a0 (d + 1) ((a, W.listOf (vs ++ [Value.ref am]).toArray k) :: ofs) (refs ++ [Value.ref a]) am (ts :: tss)
noncomputable def wtc : List (List Tr) → Nat
  | [] => 0
  | ts :: r => 1 + wts ts + wtc r
theorem wts_app (a b : List Tr) : wts (a ++ b) = wts a + wts b := by
  induction a with
  | nil => simp [wts]
  | cons t a ih => rw [List.cons_append, wts, wts, ih]; lia
theorem rawDs_app (a b : List Tr) : rawDs (a ++ b) = rawDs a ++ rawDs b := by rw [rawDs_eq, rawDs_eq, rawDs_eq, List.map_append]
theorem Chain.mono {tl tl' : List (Addr × Obj)} {a0 am : Addr} {d : Nat} {ofs : List (Addr × Obj)} {refs : List Value} {tss : List (List Tr)} (c : Chain tl a0 d ofs refs am tss) (h : ∀ p ∈ tl, p ∈ tl') : Chain tl' a0 d ofs refs am tss := by
  induction c with
  | root => exact .root
  | up c hd hle ih => exact .up ih (hd.mono h) hle
theorem Chain.len {tl : List (Addr × Obj)} {a0 am : Addr} {d : Nat} {ofs : List (Addr × Obj)} {refs : List Value} {tss : List (List Tr)} (c : Chain tl a0 d ofs refs am tss) : refs.length = d := by
  induction c with
  | root => rfl
  | up c hd hle ih => rw [List.length_append, ih]; rfl
theorem Le_leaf {n : Nat} {b : Array UInt8} (h : b.size ≤ 5) : Le n (.leaf b) := by cases n <;> exact h
theorem Chain.close {L tl : List (Addr × Obj)} {a0 am : Addr} {d : Nat} {ofs : List (Addr × Obj)} {refs : List Value} {tss : List (List Tr)} (c : Chain tl a0 d ofs refs am tss) :
    ∀ {tsm : List Tr}, DatIn L (.ref am) (rawD (.node tsm)) → (∀ t ∈ tsm, Le (3 - d) t) → d ≤ 3 → (∀ p ∈ ofs, p ∈ L) → (∀ p ∈ tl, p ∈ L) →
      ∃ ts0, DatIn L (.ref a0) (rawD (.node ts0)) ∧ Le 4 (.node ts0) ∧ wt (.node ts0) = wt (.node tsm) + wtc tss := by
  induction c with
  | root =>
    intro tsm hd hle _ _ _
    exact ⟨tsm, hd, hle, by simp [wtc]⟩
  | up c hdv hle' ih =>
    rename_i d ofs refs vs a am ts k tss
    intro tsm hd hle hd3 ho ht
    have h1 : DatIn L (.ref a) (rawD (.node (ts ++ [.node tsm]))) := by
      rw [rawD, rawDs_app]
      refine .list (ho _ (.head _)) (DatAll.append (hdv.mono ht) (DatAll.one hd))
    have h2 : ∀ t ∈ ts ++ [Tr.node tsm], Le (3 - d) t := by
      intro t hm
      rcases List.mem_append.mp hm with hm | hm
      · exact hle' t hm
      · rw [List.mem_singleton.mp hm]
        have e : 3 - d = (3 - (d + 1)) + 1 := by lia
        rw [e]; exact hle
    obtain ⟨ts0, e1, e2, e3⟩ := ih h1 h2 (by lia) (fun p hp => ho p (.tail _ hp)) ht
    refine ⟨ts0, e1, e2, ?_⟩
    rw [e3, wt, wts_app, wtc, wts, wts]; simp only [wt]; lia
/-- the state of the tree's loop -/
structure TreS (a0 op am cx : Addr) (d : Nat) (ofs tl own : List (Addr × Obj)) (refs vsm : List Value) (tsm : List Tr) (tss : List (List Tr)) (i : Nat) : Prop where
  ch : Chain tl a0 d ofs refs am tss
  d3 : d ≤ 3
  dm : DatAll tl vsm (rawDs tsm)
  lem : ∀ t ∈ tsm, Le (3 - d) t
  wt : wts tsm + 1 + wtc tss ≤ i + 1
  nd : (op :: am :: cx :: ofs.map (·.1)).Nodup
  otl : OwnOff tl (op :: am :: cx :: ofs.map (·.1))
  oown : OwnOff own (op :: am :: cx :: ofs.map (·.1))
  ot : OwnOff own (tl.map (·.1))
theorem TreS.leaf {a0 op am cx : Addr} {d i : Nat} {ofs tl own : List (Addr × Obj)} {refs vsm : List Value} {tsm : List Tr} {tss : List (List Tr)} (S : TreS a0 op am cx d ofs tl own refs vsm tsm tss i) {b : Array UInt8} {t : Tok} (hb : b.size ≤ 5) :
    TreS a0 op am cx d ofs tl own refs (vsm ++ [Value.bytes b t]) (tsm ++ [Tr.leaf b]) tss (i + 1) := by
  obtain ⟨ch, d3, dm, lem, hw, nd, otl, oown, ot⟩ := S
  refine ⟨ch, d3, ?_, ?_, ?_, nd, otl, oown, ot⟩
  · rw [rawDs_app]; exact DatAll.append dm (DatAll.one (.bytes b t))
  · intro t' hm
    rcases List.mem_append.mp hm with hm | hm
    · exact lem t' hm
    · rw [List.mem_singleton.mp hm]; exact Le_leaf hb
  · rw [wts_app]; simp only [wts, Mine.wt]; lia
theorem TreS.op {a0 op am cx q : Addr} {d i k : Nat} {ofs tl own : List (Addr × Obj)} {refs vsm : List Value} {tsm : List Tr} {tss : List (List Tr)} (S : TreS a0 op am cx d ofs tl own refs vsm tsm tss i) (hd : d < 3) (l1 : @LT.lt Nat _ op q) (l2 : @LT.lt Nat _ am q) (l3 : @LT.lt Nat _ cx q) (l4 : AllLt q (ofs ++ tl ++ own)) :
    TreS a0 op q cx (d + 1) ((am, W.listOf (vsm ++ [Value.ref q]).toArray k) :: ofs) tl own (refs ++ [Value.ref am]) [] [] (tsm :: tss) (i + 1) := by
  obtain ⟨ch, d3, dm, lem, hw, nd, otl, oown, ot⟩ := S
  obtain ⟨l5, l6⟩ := AllLt.app l4
  obtain ⟨l7, l8⟩ := AllLt.app l5
  refine ⟨.up ch dm lem, by lia, DatAll.nil, (fun t h => absurd h (by simp)), ?_, ?_, ?_, ?_, ot⟩
  · simp only [wts, wtc] at hw ⊢; lia
  · simp only [List.map_cons, List.nodup_cons, List.mem_cons, not_or] at nd ⊢
    obtain ⟨⟨n1, n2, n3⟩, ⟨n4, n5⟩, n6, n7⟩ := nd
    refine ⟨⟨Nat.ne_of_lt l1, n2, n1, n3⟩, ⟨Nat.ne_of_gt l3, Nat.ne_of_gt l2, ?_⟩, ⟨fun e => n4 e.symm, n6⟩, n5, n7⟩
    intro hm
    obtain ⟨p, hp, e⟩ := List.mem_map.mp hm
    exact AllLt.ne l7 p hp e.symm
  · intro p hp x hx
    simp only [List.map_cons, List.mem_cons] at hx
    rcases hx with rfl | rfl | rfl | rfl | hx
    · exact otl p hp _ (by simp)
    · exact (AllLt.ne l8 p hp).symm
    · exact otl p hp _ (by simp)
    · exact otl p hp _ (by simp)
    · exact otl p hp x (by simp only [List.mem_cons]; exact .inr (.inr (.inr hx)))
  · intro p hp x hx
    simp only [List.map_cons, List.mem_cons] at hx
    rcases hx with rfl | rfl | rfl | rfl | hx
    · exact oown p hp _ (by simp)
    · exact (AllLt.ne l6 p hp).symm
    · exact oown p hp _ (by simp)
    · exact oown p hp _ (by simp)
    · exact oown p hp x (by simp only [List.mem_cons]; exact .inr (.inr (.inr hx)))
theorem TreS.pop {a0 op am cx : Addr} {d i km : Nat} {ofs tl own : List (Addr × Obj)} {refs vsm : List Value} {tsm : List Tr} {tss : List (List Tr)} (S : TreS a0 op am cx d ofs tl own refs vsm tsm tss i) (hd : 0 < d) :
    ∃ a vs k ofs' refs' ts tss' d', ofs = (a, W.listOf (vs ++ [Value.ref am]).toArray k) :: ofs' ∧ refs = refs' ++ [Value.ref a] ∧ TreS a0 op a cx d' ofs' ((am, W.listOf vsm.toArray km) :: tl) own refs' (vs ++ [Value.ref am]) (ts ++ [Tr.node tsm]) tss' (i + 1) := by
  obtain ⟨ch, d3, dm, lem, hw, nd, otl, oown, ot⟩ := S
  cases ch with
  | root => exact absurd hd (Nat.lt_irrefl _)
  | up c hdv hle =>
    rename_i d' ofs' refs' vs a ts k tss'
    refine ⟨a, vs, k, ofs', refs', ts, tss', d', rfl, rfl, ⟨c.mono fun p hp => .tail _ hp, by lia, ?_, ?_, ?_, ?_, ?_, ?_, ?_⟩⟩
    · rw [rawDs_app]
      refine DatAll.append (hdv.mono fun p hp => .tail _ hp) (DatAll.one ?_)
      rw [rawD]; exact .list (.head _) (dm.mono fun p hp => .tail _ hp)
    · intro t hm
      rcases List.mem_append.mp hm with hm | hm
      · exact hle t hm
      · rw [List.mem_singleton.mp hm]
        have e : 3 - d' = (3 - (d' + 1)) + 1 := by lia
        rw [e]; exact lem
    · rw [wts_app]; simp only [wts, wtc, Mine.wt] at hw ⊢; lia
    · simp only [List.map_cons, List.nodup_cons, List.mem_cons, not_or] at nd ⊢
      obtain ⟨⟨n1, n2, n3, n4⟩, ⟨n5, n6, n7⟩, ⟨n8, n9⟩, n10, n11⟩ := nd
      exact ⟨⟨n3, n2, n4⟩, ⟨fun e => n8 e.symm, n10⟩, n9, n11⟩
    · intro p hp x hx
      simp only [List.map_cons, List.nodup_cons, List.mem_cons, not_or] at nd
      obtain ⟨⟨n1, n2, n3, n4⟩, ⟨n5, n6, n7⟩, ⟨n8, n9⟩, n10, n11⟩ := nd
      simp only [List.mem_cons] at hx
      rcases List.mem_cons.mp hp with rfl | hp
      · rcases hx with rfl | rfl | rfl | hx
        · exact fun e => n1 e.symm
        · exact n6
        · exact n5
        · exact fun e => n7 (by show am ∈ _; rw [show am = x from e]; exact hx)
      · rcases hx with rfl | rfl | rfl | hx
        · exact otl p hp _ (by simp)
        · exact otl p hp _ (by simp)
        · exact otl p hp _ (by simp)
        · exact otl p hp x (by simp only [List.map_cons, List.mem_cons]; exact .inr (.inr (.inr (.inr hx))))
    · intro p hp x hx
      simp only [List.mem_cons] at hx
      rcases hx with rfl | rfl | rfl | hx
      · exact oown p hp _ (by simp)
      · exact oown p hp _ (by simp)
      · exact oown p hp _ (by simp)
      · exact oown p hp x (by simp only [List.map_cons, List.mem_cons]; exact .inr (.inr (.inr (.inr hx))))
    · intro p hp x hx
      simp only [List.map_cons, List.mem_cons] at hx
      rcases hx with rfl | hx
      · exact oown p hp _ (by simp)
      · exact ot p hp x hx
theorem TreS.own {a0 op am cx : Addr} {d i : Nat} {ofs tl own : List (Addr × Obj)} {refs vsm : List Value} {tsm : List Tr} {tss : List (List Tr)} (S : TreS a0 op am cx d ofs tl [] refs vsm tsm tss i) (h : OwnOff own (op :: am :: cx :: (ofs ++ tl).map (·.1))) : TreS a0 op am cx d ofs tl own refs vsm tsm tss i := by
  obtain ⟨ch, d3, dm, lem, hw, nd, otl, oown, ot⟩ := S
  rw [List.map_append] at h
  exact ⟨ch, d3, dm, lem, hw, nd, otl, OwnOff.sub h (by intro b hb; simp only [List.mem_cons, List.mem_append] at hb ⊢; rcases hb with h | h | h | h <;> simp [h]), OwnOff.sub h (by intro b hb; simp only [List.mem_cons, List.mem_append]; exact .inr (.inr (.inr (.inr hb))))⟩
theorem TreS.off {a0 op am cx : Addr} {d i : Nat} {ofs tl own : List (Addr × Obj)} {refs vsm : List Value} {tsm : List Tr} {tss : List (List Tr)} (S : TreS a0 op am cx d ofs tl own refs vsm tsm tss i) : OwnOff (ofs ++ (tl ++ own)) [op, am, cx] ∧ (@Ne Nat op am) ∧ (@Ne Nat op cx) ∧ (@Ne Nat am cx) := by
  have nd := S.nd
  simp only [List.nodup_cons, List.mem_cons, not_or] at nd
  obtain ⟨⟨n1, n2, n3⟩, ⟨n4, n5⟩, n6, n7⟩ := nd
  refine ⟨OwnOff.app ?_ (OwnOff.app (OwnOff.sub S.otl (by simp)) (OwnOff.sub S.oown (by simp))), n1, n2, n4⟩
  intro p hp b hb e
  have hm : p.1 ∈ ofs.map (·.1) := List.mem_map.mpr ⟨p, hp, rfl⟩
  simp only [List.mem_cons, List.not_mem_nil, or_false] at hb
  rcases hb with rfl | rfl | rfl
  · exact n3 (e ▸ hm)
  · exact n5 (e ▸ hm)
  · exact n6 (e ▸ hm)
end Mine
end
section
open PySem PySem.W PySem.Calls PyProof.Rows
namespace Mine
theorem bitOr_low {x b : Int} {k : Nat} (hx : 0 ≤ x) (hb : 0 ≤ b) (hlt : b < 2 ^ k) : Builtin.bitOr (x * 2 ^ k) b = x * 2 ^ k + b := by
  obtain ⟨n, rfl⟩ := Int.eq_ofNat_of_zero_le hx
  obtain ⟨m, rfl⟩ := Int.eq_ofNat_of_zero_le hb
  have hm : m < 2 ^ k := by exact_mod_cast hlt
  rw [bitOr_and, bitAnd_pp (Int.mul_nonneg (by lia) (Int.pow_nonneg (by decide))) (by lia)]
  have e : ((n : Int) * 2 ^ k).toNat = n * 2 ^ k := by
    have : ((n : Int) * 2 ^ k) = ((n * 2 ^ k : Nat) : Int) := by push_cast; rfl
    rw [this]; rfl
  have z : (n * 2 ^ k) &&& m = 0 := by
    rw [Nat.mul_comm]
    apply Nat.eq_of_testBit_eq
    intro i
    rw [Nat.testBit_and, Nat.testBit_two_pow_mul, Nat.zero_testBit]
    by_cases hi : k ≤ i
    · have : m.testBit i = false := Nat.testBit_lt_two_pow (Nat.lt_of_lt_of_le hm (Nat.pow_le_pow_right (by decide) hi))
      simp [this]
    · simp [hi]
  rw [e, Int.toNat_natCast, z]; simp
end Mine
namespace Mine
theorem or8 {x b : Int} (hx : 0 ≤ x) (hb : 0 ≤ b) (h : b < 256) : Builtin.bitOr (x * 256) b = x * 256 + b := bitOr_low (k := 8) hx hb h
theorem or2 {x b : Int} (hx : 0 ≤ x) (hb : 0 ≤ b) (h : b < 4) : Builtin.bitOr (x * 4) b = x * 4 + b := bitOr_low (k := 2) hx hb h
theorem or4 {x b : Int} (hx : 0 ≤ x) (hb : 0 ≤ b) (h : b < 16) : Builtin.bitOr (x * 16) b = x * 16 + b := bitOr_low (k := 4) hx hb h
theorem or6 {x b : Int} (hx : 0 ≤ x) (hb : 0 ≤ b) (h : b < 64) : Builtin.bitOr (x * 64) b = x * 64 + b := bitOr_low (k := 6) hx hb h
theorem fdiv1 (x : Int) : x.fdiv 1 = x := by simp [Int.fdiv_eq_ediv_of_nonneg]
theorem fdiv4 (x : Int) : x.fdiv 4 = x / 4 := Int.fdiv_eq_ediv_of_nonneg _ (by decide)
theorem fdiv16 (x : Int) : x.fdiv 16 = x / 16 := Int.fdiv_eq_ediv_of_nonneg _ (by decide)
theorem fdiv64 (x : Int) : x.fdiv 64 = x / 64 := Int.fdiv_eq_ediv_of_nonneg _ (by decide)
/-- the alphabet -/
abbrev B64L : List UInt8 := [65, 66, 67, 68, 69, 70, 71, 72, 73, 74, 75, 76, 77, 78, 79, 80, 81, 82, 83, 84, 85, 86, 87, 88, 89, 90, 97, 98, 99, 100, 101, 102, 103, 104, 105, 106, 107, 108, 109, 110, 111, 112, 113, 114, 115, 116, 117, 118, 119, 120, 121, 122, 48, 49, 50, 51, 52, 53, 54, 55, 56, 57, 43, 47]
def sx (j : Int) : Int := ((B64L.getD j.toNat 0).toNat : Int)
theorem sx_range {j : Int} : 0 ≤ sx j ∧ sx j < 256 := by
  unfold sx
  have := (B64L.getD j.toNat 0).toNat_lt
  lia
theorem IntsAre.push {its : Array Value} {ns : List Int} (h : IntsAre its.toList ns) (n : Int) (t : Tok) : IntsAre (its.push (.int n t)).toList (ns ++ [n]) := by
  rw [Array.toList_push]; exact PyProof.Rows.IntsAre.append h (.cons n t .nil)
section
variable {prog : Program} {w : World} {A : Around} {E : Value → Shared → Prop} {s : Shared}
theorem bytes_call {h₀ : Heap} {L a : Addr} {m : Str → Option Value} {news : List (Addr × Obj)} {its : Array Value} {k : Nat} {out : List Int} {Q : Value → Shared → Prop} (F : Fr h₀ L s.heap m) (N : News h₀ L s.heap news) (hm : (a, W.listOf its k) ∈ news) (hI : IntsAre its.toList out)
    (hr : ∀ n ∈ out, 0 ≤ n ∧ n < 256) (hz : its.size ≤ 10000000) (hh : A.handled = none) (h : ∀ h' t tk, Fr h₀ L h' m → News h₀ L h' news → Q (.bytes (byteArr out) t) { s with heap := h', toks := tk }) :
    wpAny (model prog w) A (call (.type "bytes") [.ref a]) Q E s := by
  refine call_bytes_ints (vs := its.toList) (ns := out) ⟨_, (N _ hm).1, rfl, k, by simp [W.listOf]⟩ hI hr ?_ hh fun h' t tk hk => h h' t tk (Mine.Fr.mono F hk) (Mine.News.mono N hk)
  rw [sizeLine_eq, Array.length_toList]; lia
theorem sub_B64 {value slice : PySem.Expr} {j : Int} {t u : Tok} {Q : Value → Shared → Prop} (h0 : 0 ≤ j) (h1 : j < 64) (h : Q (.int (sx j) s.toks) { s with toks := s.toks + 1 })
    (hs : subscripted slice false (.bytes B64L.toArray t) (.int j u) = operate [.bytes B64L.toArray t, .int j u] (getItem (.bytes B64L.toArray t) (.int j u))) :
    wpAny (model prog w) A (subscriptTail value slice (.bytes B64L.toArray t) (.int j u)) Q E s :=
  tail_any (typeIs_bytes _ _ _) FB.slot_bytes_getitem.lookup (getItem_bytes (l := B64L) (by decide) h0 h1 h) hs
end
end Mine
end
section
open PySem PySem.W PySem.Spec PySem.Calls PyProof.Rows
set_option maxRecDepth 100000
namespace Mine
section
variable {w : World} {A : Around} {E : Value → Shared → Prop} {s : Shared} {h₀ : Heap} {L : Addr} {m : Str → Option Value} {news news' : List (Addr × Obj)}
theorem mapSeq_pop (its : Array Value) (n i : Nat) :
    ∃ n', Obj.mapSeq (fun xs => xs.eraseIdxIfInBounds i) (W.listOf its n) = W.listOf (its.eraseIdxIfInBounds i) n' := by
  simp [Obj.mapSeq, W.listOf]
theorem pop_opn {a am : Addr} {refs : List Value} {k : Nat} {Q : Value → Shared → Prop} (F : Fr h₀ L s.heap m) (N : News h₀ L s.heap news)
    (hd : refs.length ≤ 100000) (U : ∀ k', ∃ news', Upd a (W.listOf (refs ++ [Value.ref am]).toArray k) (W.listOf refs.toArray k') news news' ∧ ∀ h', Fr h₀ L h' m → News h₀ L h' news' → Q (.ref am) { s with heap := h' }) :
    wpAny (model prg w) A (call (.builtin "list.pop") [.ref a]) Q E s := by
  obtain ⟨k', ek⟩ := mapSeq_pop (refs ++ [Value.ref am]).toArray k ((refs ++ [Value.ref am]).toArray.size - 1)
  have e1 : (refs ++ [Value.ref am]).toArray.eraseIdxIfInBounds ((refs ++ [Value.ref am]).toArray.size - 1) = refs.toArray := by
    simp [Array.eraseIdxIfInBounds, List.eraseIdx_append_of_length_le]
  rw [e1] at ek
  obtain ⟨news', U, h⟩ := U k'
  obtain ⟨pre, post, rfl, rfl, a1, b1⟩ := U.split
  have z := N _ (List.mem_append.mpr (.inr (.head _)))
  refine call_meets PySem.F.slot_list_pop ⟨_, z.1, rfl⟩ PySem.F.entry_list_pop (PySem.F.args_list_pop_1 _) (MeetsSeq.list_pop_last a (refs ++ [Value.ref am]).toArray k (.ref am) (by simp) (by rw [sizeLine_eq]; simp; lia)) ⟨z.1, ?_⟩
  have hs : Heap.SameBut a s.heap (s.heap.update a (Obj.mapSeq fun xs => xs.eraseIdxIfInBounds ((refs ++ [Value.ref am]).toArray.size - 1))) := Heap.SameBut.update ..
  refine h _ (Fr.change F hs z.2.1 z.2.2) (news_set N a1 b1 hs ?_)
  rw [Heap.get?_update_self _ z.1 (by rw [ek]; rfl), ek]
end
theorem TreS.noown {a0 op am cx : Addr} {d i : Nat} {ofs tl own : List (Addr × Obj)} {refs vsm : List Value} {tsm : List Tr} {tss : List (List Tr)} (S : TreS a0 op am cx d ofs tl own refs vsm tsm tss i) : TreS a0 op am cx d ofs tl [] refs vsm tsm tss i := by
  obtain ⟨ch, d3, dm, lem, hw, nd, otl, oown, ot⟩ := S
  exact ⟨ch, d3, dm, lem, hw, nd, otl, fun p hp => absurd hp (by simp), fun p hp => absurd hp (by simp)⟩
inductive TreJ (cx : Addr) (i : Nat) (m : Str → Option Value) (nx : List (Addr × Obj)) : Prop
  | mk (a0 op am : Addr) (d kop km : Nat) (ofs tl : List (Addr × Obj)) (refs vsm : List Value) (tsm : List Tr) (tss : List (List Tr)) (oc : Obj) (vc : Option Value) (h0 : nx = (op, W.listOf (refs ++ [Value.ref am]).toArray kop) :: (am, W.listOf vsm.toArray km) :: (cx, oc) :: (ofs ++ tl)) (h1 : oc.data = .cell vc) (h2 : m (Str.ofString "opened") = some (.ref op)) (h3 : m (Str.ofString "first") = some (.ref a0)) (h4 : TreS a0 op am cx d ofs tl [] refs vsm tsm tss i) : TreJ cx i m nx
theorem TreJ_end {h₀ h9 : Heap} {L cx a0 op am : Addr} {m9 : Str → Option Value} {news9 ofs tl own : List (Addr × Obj)} {s : Shared} {tk d kop km i : Nat} {refs vsm : List Value} {tsm : List Tr} {tss : List (List Tr)} {oc : Obj} {vc : Option Value}
    (F9 : Fr h₀ L h9 m9) (N9 : News h₀ L h9 news9) (S : TreS a0 op am cx d ofs tl own refs vsm tsm tss i) (hoc : oc.data = .cell vc) (hop : m9 (Str.ofString "opened") = some (.ref op)) (hfi : m9 (Str.ofString "first") = some (.ref a0))
    (h1 : (op, W.listOf (refs ++ [Value.ref am]).toArray kop) ∈ news9) (h2 : (am, W.listOf vsm.toArray km) ∈ news9) (h3 : (cx, oc) ∈ news9) (h4 : ∀ p ∈ ofs ++ (tl ++ own), p ∈ news9) :
    InvEndG h₀ L (fun m nx => TreJ cx i m nx) own s { s with heap := h9, toks := tk } := by
  refine InvEndG.intro (nx := (op, W.listOf (refs ++ [Value.ref am]).toArray kop) :: (am, W.listOf vsm.toArray km) :: (cx, oc) :: (ofs ++ tl)) F9 N9 ⟨a0, op, am, d, kop, km, ofs, tl, refs, vsm, tsm, tss, oc, vc, rfl, hoc, hop, hfi, S.noown⟩ ?_ ?_ fun p hp => h4 p (by simp [hp])
  · intro p hp x hx
    simp only [List.map_cons, List.map_append, List.mem_cons, List.mem_append] at hx
    rcases hx with h | h | h | h | h
    · exact S.oown p hp x (by simp [h])
    · exact S.oown p hp x (by simp [h])
    · exact S.oown p hp x (by simp [h])
    · exact S.oown p hp x (by simp only [List.mem_cons]; exact .inr (.inr (.inr h)))
    · exact S.ot p hp x h
  · intro p hp
    simp only [List.mem_cons, List.mem_append] at hp
    rcases hp with h | h | h | h | h
    · rw [h]; exact h1
    · rw [h]; exact h2
    · rw [h]; exact h3
    · exact h4 p (by simp [h])
    · exact h4 p (by simp [h])
end Mine
end
section
open PySem PySem.W PySem.Calls PyProof.Rows
namespace Mine
set_option maxRecDepth 100000
set_option maxHeartbeats 8000000
theorem kw_Leafs_0 : True := by
  k_with_none
  trivial
theorem kw_Leafs_1 : True := by
  (k_with "execs cons" => ((with_reducible show wpAny _ _ (execs (_ :: _) _) _ _ ⟨_, _, _, HAdd.hAdd _ _, _⟩); (try dsimp only); refine dropT ?_; intro tk9))
  (k_with "enter" => ((case h1 => k_is); (case h2 => k_is); (case h3 => decide); (case h4 => exact fun _ _ => BindsTo.of_eq rfl); (case h5 => exact locs rfl); (case c5 => decide);  (case c2 => exact rfl); (case c3 => exact rfl); (case c4 => exact rfl)))
  (k_with "call type:type" => (refine PySem.call_type_of (typeIs_bytes _ _ _) rfl ?_))
  trivial
theorem truth_spec (w : World) (b : Bool) :
   PureC w 1 119 [.bool b] [] (fun _ => True) (fun _ _ v => v = .bool b) := by
  refine' enterP [(Str.ofString "x", .bool b)] ?h1 ?h2 ?h3 ?h4 ?h5 ?_ ?c2 ?c3 ?c4 ?c5
  walk_at "enter"
  intro s p' loose' mg' mb' L' h' tk' pre' F' N' X' T' P' hP'
  k_steps
  all_goals (refine hP' _ _ (Done.intro (by assumption) ?_); simp_all)
theorem buffer_spec (w : World) (b : Array UInt8) (t : Tok) :
   PureC w 1 112 [.bytes b t] [] (fun _ => True) (fun _ _ v => v = .bytes b t) := by
  refine' enterP [(Str.ofString "data", .bytes b t)] ?h1 ?h2 ?h3 ?h4 ?h5 ?_ ?c2 ?c3 ?c4 ?c5
  walk_at "enter"
  intro s p' loose' mg' mb' L' h' tk' pre' F' N' X' T' P' hP'
  k_steps
  all_goals (exact hP' _ _ (Done.intro (by assumption) rfl))
theorem ascii_buffer_spec (w : World) (b : Array UInt8) (t : Tok) :
   PureC w 1 105 [.bytes b t] [] (fun _ => True) (fun _ _ v => v = .bytes b t) := by
  refine' enterP [(Str.ofString "data", .bytes b t)] ?h1 ?h2 ?h3 ?h4 ?h5 ?_ ?c2 ?c3 ?c4 ?c5
  walk_at "enter"
  intro s p' loose' mg' mb' L' h' tk' pre' F' N' X' T' P' hP'
  k_steps
  all_goals (exact hP' _ _ (Done.intro (by assumption) rfl))
theorem bytes_from_spec (w : World) (b : Array UInt8) (t : Tok) :
   PureC w 1 85 [.bytes b t] [] (fun _ => True) (fun _ _ v => v = .bytes b t) := by
  refine' enterP [(Str.ofString "s", .bytes b t)] ?h1 ?h2 ?h3 ?h4 ?h5 ?_ ?c2 ?c3 ?c4 ?c5
  walk_at "enter"
  intro s p' loose' mg' mb' L' h' tk' pre' F' N' X' T' P' hP'
  k_steps
  all_goals (exact hP' _ _ (Done.intro (by assumption) rfl))
end Mine
end
section
open PySem PySem.W PySem.Calls PyProof.Rows
namespace Mine
def b64v (c : Int) : Int := if 65 ≤ c ∧ c ≤ 90 then c - 65 else if 97 ≤ c ∧ c ≤ 122 then c - 71 else if 48 ≤ c ∧ c ≤ 57 then c + 4 else if c = 43 then 62 else if c = 47 then 63 else 64
set_option maxRecDepth 100000
set_option maxHeartbeats 8000000
theorem kw_B64v_0 : True := by
  k_with_none
  trivial
def HoldB (p : Prop) : Prop := p
theorem HoldB.mk {p : Prop} (h : HoldB p) : p := h
inductive MarkB : Prop | mk
def BoP (b₀ : Bool) (s : Shared) (b : Bool) (s' : Shared) : Prop := b = b₀ ∧ s' = { s with toks := s'.toks }
theorem cutBo {M : Model} {A : Around} {t : Sem Bool} {Q : Bool → Shared → Prop} {E : Value → Shared → Prop} {s : Shared} (b₀ : Bool) (h : wpAny M A t (BoP b₀ s) E s) (k : ∀ tk, Q b₀ { s with toks := tk }) : wpAny M A t Q E s :=
  wpAny_mono h (by rintro b s' ⟨rfl, e⟩; rw [e]; exact k _) fun _ _ x => x
theorem kw_B64v_1 : True := by
  (k_with "isTrue Compare" => ((with_reducible rename MarkB => hm9); clear hm9; refine HoldB.mk ?_))
  (k_with "execs cons" => ((with_reducible show wpAny _ _ (execs (_ :: _) _) _ _ ⟨_, _, _, HAdd.hAdd _ _, _⟩); (try dsimp only); refine dropT ?_; intro tk9))
  (k_with "enter" => ((case h1 => k_is); (case h2 => k_is); (case h3 => decide); (case h4 => exact fun _ _ => BindsTo.of_eq rfl); (case h5 => exact locs rfl); (case c5 => decide);  (case c2 => exact rfl); (case c3 => exact rfl); (case c4 => exact rfl)))
  trivial
theorem b64_value_spec (w : World) (c : Int) (t : Tok) :
   PureC w 1 126 [.int c t] [] (fun _ => True) (fun _ _ v => ∃ t', v = .int (b64v c) t') := by
  refine' enterP [(Str.ofString "c", .int c t)] ?h1 ?h2 ?h3 ?h4 ?h5 ?_ ?c2 ?c3 ?c4 ?c5
  walk_at "enter"
  intro s p' loose' mg' mb' L' h' tk' pre' F' N' X' T' P' hP'
  have hm9 := MarkB.mk
  k_steps
  unfold HoldB
  refine cutBo (decide (65 ≤ c ∧ c ≤ 90)) ?_ fun tk1 => ?_
  · k_steps
    all_goals exact ⟨by simp; lia, rfl⟩
  by_cases h1 : 65 ≤ c ∧ c ≤ 90
  · rw [decide_eq_true h1]
    k_steps
    refine hP' _ _ (Done.intro (by assumption) ⟨_, congrArg (Value.int · _) ?_⟩)
    unfold b64v; rw [if_pos h1]
  rw [decide_eq_false h1]
  have hm9 := MarkB.mk
  k_steps
  unfold HoldB
  refine cutBo (decide (97 ≤ c ∧ c ≤ 122)) ?_ fun tk2 => ?_
  · k_steps
    all_goals exact ⟨by simp; lia, rfl⟩
  by_cases h2 : 97 ≤ c ∧ c ≤ 122
  · rw [decide_eq_true h2]
    k_steps
    refine hP' _ _ (Done.intro (by assumption) ⟨_, congrArg (Value.int · _) ?_⟩)
    unfold b64v; rw [if_neg h1, if_pos h2]
  rw [decide_eq_false h2]
  have hm9 := MarkB.mk
  k_steps
  unfold HoldB
  refine cutBo (decide (48 ≤ c ∧ c ≤ 57)) ?_ fun tk3 => ?_
  · k_steps
    all_goals exact ⟨by simp; lia, rfl⟩
  by_cases h3 : 48 ≤ c ∧ c ≤ 57
  · rw [decide_eq_true h3]
    k_steps
    refine hP' _ _ (Done.intro (by assumption) ⟨_, congrArg (Value.int · _) ?_⟩)
    unfold b64v; rw [if_neg h1, if_neg h2, if_pos h3]
  rw [decide_eq_false h3]
  k_steps
  all_goals (refine hP' _ _ (Done.intro (by assumption) ⟨_, congrArg (Value.int · _) ?_⟩))
  all_goals (unfold b64v; rw [if_neg h1, if_neg h2, if_neg h3]; simp_all)
end Mine
end
section
open PySem PySem.W PySem.Calls PyProof.Rows
namespace Mine
set_option maxRecDepth 100000
set_option maxHeartbeats 8000000
theorem kw_B2a_0 : True := by
  k_with_none
  trivial
theorem kw_B2a_1 : True := by
  (k_with "execs cons" => ((with_reducible show wpAny _ _ (execs (_ :: _) _) _ _ ⟨_, _, _, HAdd.hAdd _ _, _⟩); (try dsimp only); refine dropT ?_; intro tk9))
  (k_with "enter" => ((case h1 => k_is); (case h2 => k_is); (case h3 => decide); (case h4 => exact fun _ _ => BindsTo.of_eq rfl); (case h5 => exact locs rfl); (case c5 => decide);  (case c2 => exact rfl); (case c3 => exact rfl); (case c4 => exact rfl)))
  (k_with "pureuse" => ((case kF => k_asm); (case kN => k_asm); (case kX => k_asm); (case kT => k_asm); (case lo => exact ⟨rfl, rfl, Nat.le_of_ble_eq_true rfl, Nat.le_of_ble_eq_true rfl⟩); k_whole))
  (k_with "call ref" => ((with_reducible show wpAny _ _ (call (Value.ref 112) [Value.bytes _ _]) _ _ _); (refine' PureC.use (buffer_spec _ _ _) ?kF ?kN ?kX ?kT ?lo trivial ?_; walk_at "pureuse"); (intro v9 h9 tk9 F9 N9 k9 o9; subst o9; clear k9; (try dsimp only))))
  (k_with "call ref" => ((with_reducible show wpAny _ _ (call (Value.ref 119) [Value.bool _]) _ _ _); (refine' PureC.use (truth_spec _ _) ?kF ?kN ?kX ?kT ?lo trivial ?_; walk_at "pureuse"); (intro v9 h9 tk9 F9 N9 k9 o9; subst o9; clear k9; (try dsimp only))))
  (k_with "subscriptTail" => ((with_reducible show wpAny _ _ (subscriptTail _ _ (Value.bytes _ _) (Value.int _ _)) _ _ _); (try dsimp only); (try simp (disch := omega) only [bitAnd_m6, bitAnd_m16, bitAnd_m4, bitAnd_m2, or8, or2, or4, or6, fdiv1, fdiv4, fdiv16, fdiv64, Int.reduceAdd, Int.reduceSub, Int.reduceToNat, Int.reducePow, Int.reduceMul]); k_dflt (refine' sub_B64 ?h0 ?h1 ?_ ?hs; (case h0 => lia); (case h1 => lia); (case hs => with_unfolding_all rfl); k_whole)))
  (k_with "storeName" => (simp (disch := omega) only [bitAnd_m6, bitAnd_m16, bitAnd_m4, bitAnd_m2, or8, or2, or4, or6, fdiv1, fdiv4, fdiv16, fdiv64, Int.reduceAdd, Int.reduceSub, Int.reduceToNat, Int.reducePow, Int.reduceMul]))
  (k_with "storeName" => dsimp only)
  (k_with "binaryOp LShift int int" => ((try dsimp only); (try simp (disch := omega) only [bitAnd_m6, bitAnd_m16, bitAnd_m4, bitAnd_m2]); (refine lshift_int_small (by lia) (by lia) (by lia) ?_)))
  trivial
def encStep (st : Int × Int × List Int) (c : Int) : Int × Int × List Int :=
  if st.1 = 0 then (2, (st.2.1 * 256 + c) % 65536, st.2.2 ++ [sx ((st.2.1 * 256 + c) % 65536 / 4 % 64)])
  else if st.1 = 2 then (4, (st.2.1 * 256 + c) % 65536, st.2.2 ++ [sx ((st.2.1 * 256 + c) % 65536 / 16 % 64)])
  else (0, (st.2.1 * 256 + c) % 65536, st.2.2 ++ [sx ((st.2.1 * 256 + c) % 65536 / 64 % 64)] ++ [sx ((st.2.1 * 256 + c) % 65536 % 64)])
def encFin (st : Int × Int × List Int) : List Int :=
  if st.1 = 2 then st.2.2 ++ [sx (st.2.1 % 4 * 16)] ++ [61] ++ [61] else if st.1 = 4 then st.2.2 ++ [sx (st.2.1 % 16 * 4)] ++ [61] else st.2.2
def enc64 (ks : List Int) : List Int := encFin (ks.foldl encStep (0, 0, []))
structure EncOk (st : Int × Int × List Int) (n : Nat) : Prop where
  lb : st.1 = 0 ∨ st.1 = 2 ∨ st.1 = 4
  lc0 : 0 ≤ st.2.1
  lc1 : st.2.1 < 65536
  len : st.2.2.length ≤ 2 * n
  ran : ∀ x ∈ st.2.2, 0 ≤ x ∧ x < 256
theorem ran_snoc {l : List Int} {j : Int} (hl : ∀ x ∈ l, 0 ≤ x ∧ x < 256) (hj : 0 ≤ j ∧ j < 256) : ∀ x ∈ l ++ [j], 0 ≤ x ∧ x < 256 := by
  intro x hx
  rcases List.mem_append.mp hx with h | h
  · exact hl x h
  · rw [List.mem_singleton.mp h]; exact hj
theorem EncOk.step {st : Int × Int × List Int} {n : Nat} {c : Int} (h : EncOk st n) : EncOk (encStep st c) (n + 1) := by
  obtain ⟨lb, l0, l1, len, ran⟩ := h
  have hr : ∀ (l : List Int) (j : Int), (∀ x ∈ l, 0 ≤ x ∧ x < 256) → ∀ x ∈ l ++ [sx j], 0 ≤ x ∧ x < 256 := by
    intro l j hl x hx
    rcases List.mem_append.mp hx with h | h
    · exact hl x h
    · rw [List.mem_singleton.mp h]; exact sx_range
  unfold encStep
  split
  · exact ⟨.inr (.inl rfl), by dsimp only; lia, by dsimp only; lia, by simp only [List.length_append, List.length_singleton]; lia, hr _ _ ran⟩
  · split
    · exact ⟨.inr (.inr rfl), by dsimp only; lia, by dsimp only; lia, by simp only [List.length_append, List.length_singleton]; lia, hr _ _ ran⟩
    · exact ⟨.inl rfl, by dsimp only; lia, by dsimp only; lia, by simp only [List.length_append, List.length_singleton]; lia, hr _ _ (hr _ _ ran)⟩
theorem EncOk.fold : ∀ (ks : List Int) {st : Int × Int × List Int} {n : Nat}, EncOk st n → EncOk (ks.foldl encStep st) (n + ks.length)
  | [], _, _, h => h
  | c :: r, st, n, h => by
    have := EncOk.fold r (h.step (c := c))
    rw [List.length_cons, ← Nat.add_assoc, Nat.add_right_comm]; exact this
theorem EncOk.all (ks : List Int) : EncOk (ks.foldl encStep (0, 0, [])) ks.length := by
  have := EncOk.fold ks (st := (0, 0, [])) (n := 0) ⟨.inl rfl, by decide, by decide, by decide, fun _ h => nomatch h⟩
  rw [Nat.zero_add] at this; exact this
inductive B2aJ (b : Array UInt8) (i : Nat) (m : Str → Option Value) (nx : List (Addr × Obj)) : Prop
  | mk (a : Addr) (its : Array Value) (k : Nat) (lb lc : Int) (out : List Int) (t1 t2 : Tok) (h0 : nx = [(a, W.listOf its k)]) (h1 : IntsAre its.toList out) (h2 : m (Str.ofString "out") = some (.ref a)) (h3 : m (Str.ofString "leftbits") = some (.int lb t1)) (h4 : m (Str.ofString "leftchar") = some (.int lc t2)) (h5 : m (Str.ofString "newline") = some (.bool false)) (h6 : (lb, lc, out) = ((KBw.bInts b).take i).foldl encStep (0, 0, [])) : B2aJ b i m nx
theorem B2aJ.step {b : Array UInt8} {i : Nat} {c : UInt8} (hc : b[i]? = some c) : ((KBw.bInts b).take (i + 1)).foldl encStep (0, 0, []) = encStep (((KBw.bInts b).take i).foldl encStep (0, 0, [])) (c.toNat : Int) := by
  rw [List.take_add_one, KBw.ints_get hc, List.foldl_append]; rfl
theorem b2a_spec (w : World) (b : Array UInt8) (t : Tok) (hsz : b.size ≤ 100000) :
   PureC w 2 142 [.bytes b t] [(Str.ofString "newline", .bool false)] (fun _ => True) (fun _ _ v => ∃ t', v = .bytes (byteArr (enc64 (KBw.bInts b))) t') := by
  refine' enterP [(Str.ofString "data", .bytes b t), (Str.ofString "newline", .bool false)] ?h1 ?h2 ?h3 ?h4 ?h5 ?_ ?c2 ?c3 ?c4 ?c5
  walk_at "enter"
  intro s p' loose' mg' mb' L' h' tk' pre' F' N' X' T' P' hP'
  k_steps
  (rename Fr _ _ _ _ => F1); (rename News _ _ _ _ => N1)
  refine loop_bytes (fun i m nx => B2aJ b i m nx) rfl F1 N1 ?_ ?_ ?_
  · exact ⟨_, _, _, _, _, _, _, _, rfl, .nil, rfl, rfl, rfl, rfl, rfl⟩
  · intro i c u m₁ nx h tk own hc hoff hJ F₁ N₁
    refine genF fun P1 hPa => ?_
    obtain ⟨a, its, k, lb, lc, out, t1, t2, rfl, hI, ha, hlb, hlc, hnl, hst⟩ := hJ
    replace F₁ := Fr.knownIf F₁ [(Str.ofString "out", .ref a), (Str.ofString "leftbits", .int lb t1), (Str.ofString "leftchar", .int lc t2), (Str.ofString "newline", .bool false)] (by simp [ha, hlb, hlc, hnl])
    have hok := EncOk.all ((KBw.bInts b).take i)
    have hs1 := B2aJ.step hc
    rw [← hst] at hok hs1
    obtain ⟨hlb3, hlc0, hlc1, hlen, hran⟩ := hok
    have hlt : ((KBw.bInts b).take i).length ≤ 100000 := by rw [List.length_take, KBw.ints_length]; lia
    have hvl : its.size ≤ 200000 := by have := hI.length; rw [Array.length_toList] at this; dsimp only at hlen; lia
    clear hlen hlt hran hst
    have hb0 : (0 : Int) ≤ (c.toNat : Int) := by lia
    have hb1 : (c.toNat : Int) < 256 := by have := c.toNat_lt; lia
    generalize (c.toNat : Int) = cb at *
    simp only [List.map_cons, List.map_nil, List.singleton_append] at hoff N₁
    dsimp only at hlb3 hlc0 hlc1
    rcases hlb3 with rfl | rfl | rfl
    · k_steps
      refine endP hPa (InvEndG.intro (nx := [_]) (by k_asm) (by k_asm) ⟨a, _, _, _, _, _, _, _, rfl, Mine.IntsAre.push hI _ _, rfl, rfl, rfl, rfl, (by rw [hs1]; rfl)⟩ hoff (by intro p hp; rw [List.mem_singleton.mp hp]; exact .head _) (fun p hp => .tail _ hp))
    · k_steps
      refine endP hPa (InvEndG.intro (nx := [_]) (by k_asm) (by k_asm) ⟨a, _, _, _, _, _, _, _, rfl, Mine.IntsAre.push hI _ _, rfl, rfl, rfl, rfl, (by rw [hs1]; rfl)⟩ hoff (by intro p hp; rw [List.mem_singleton.mp hp]; exact .head _) (fun p hp => .tail _ hp))
    · k_steps
      refine endP hPa (InvEndG.intro (nx := [_]) (by k_asm) (by k_asm) ⟨a, _, _, _, _, _, _, _, rfl, Mine.IntsAre.push (Mine.IntsAre.push hI _ _) _ _, rfl, rfl, rfl, rfl, (by rw [hs1]; rfl)⟩ hoff (by intro p hp; rw [List.mem_singleton.mp hp]; exact .head _) (fun p hp => .tail _ hp))
  · intro m₁ nx h tk hJ F₁ N₁
    obtain ⟨a, its, k, lb, lc, out, t1, t2, rfl, hI, ha, hlb, hlc, hnl, hst⟩ := hJ
    replace F₁ := Fr.known F₁ [(Str.ofString "out", .ref a), (Str.ofString "leftbits", .int lb t1), (Str.ofString "leftchar", .int lc t2), (Str.ofString "newline", .bool false)] (by simp [ha, hlb, hlc, hnl])
    have hok := EncOk.all (KBw.bInts b)
    have e9 : (KBw.bInts b).take b.size = KBw.bInts b := by rw [← KBw.ints_length, List.take_length]
    rw [e9] at hst
    have hz : enc64 (KBw.bInts b) = encFin (lb, lc, out) := by rw [hst]; rfl
    rw [← hst] at hok
    obtain ⟨hlb3, hlc0, hlc1, hlen, hran⟩ := hok
    have hvl : its.size ≤ 200000 := by have := hI.length; rw [Array.length_toList] at this; dsimp only at hlen; rw [KBw.ints_length] at hlen; lia
    rw [hz] at hP'
    clear hlen hst e9 hz
    dsimp only at hlb3 hlc0 hlc1 hran
    rcases hlb3 with rfl | rfl | rfl
    · k_steps
      refine bytes_call (by k_asm) (by k_asm) (.head _) hI hran (by lia) rfl fun h8 t8 tk8 F8 N8 => ?_
      k_steps
      exact hP' _ _ (Done.intro (by assumption) ⟨_, rfl⟩)
    · k_steps
      refine' bytes_call ?bF ?bN (.head _) (Mine.IntsAre.push (Mine.IntsAre.push (Mine.IntsAre.push hI _ _) _ _) _ _) ?br ?bz rfl fun h8 t8 tk8 F8 N8 => ?_
      case bF => k_asm
      case bN => k_asm
      case br => exact ran_snoc (ran_snoc (ran_snoc hran sx_range) (by decide)) (by decide)
      case bz => simp only [Array.size_push]; lia
      k_steps
      exact hP' _ _ (Done.intro (by assumption) ⟨_, rfl⟩)
    · k_steps
      refine' bytes_call ?bF ?bN (.head _) (Mine.IntsAre.push (Mine.IntsAre.push hI _ _) _ _) ?br ?bz rfl fun h8 t8 tk8 F8 N8 => ?_
      case bF => k_asm
      case bN => k_asm
      case br => exact ran_snoc (ran_snoc hran sx_range) (by decide)
      case bz => simp only [Array.size_push]; lia
      k_steps
      exact hP' _ _ (Done.intro (by assumption) ⟨_, rfl⟩)
end Mine
end
section
open PySem PySem.W PySem.Calls PyProof.Rows
namespace Mine
set_option maxRecDepth 100000
set_option maxHeartbeats 8000000
theorem kw_A2b_0 : True := by
  k_with_none
  trivial
def HoldA (p : Prop) : Prop := p
theorem HoldA.mk {p : Prop} (h : HoldA p) : p := h
inductive MarkA2 : Prop | mk
theorem eqI_f {prog : Program} {w : World} {A : Around} {E : Value → Shared → Prop} {s : Shared} {a b : Int} {t u : Tok} {Q : Value → Shared → Prop} (h : a ≠ b) (hq : Q (.bool false) s) : wpAny (model prog w) A (compareOp .Eq (.int a t) (.int b u)) Q E s := by
  refine eq_int ?_
  rw [show (a == b) = false from beq_eq_false_iff_ne.mpr h]; exact hq
theorem kw_A2b_1 : True := by
  (k_with "compareOp Eq int int" => (with_reducible refine eqI_f (by assumption) ?_))
  (k_with "compareOp Eq int int" => ((with_reducible rename MarkA2 => hm9); (with_reducible show wpAny _ _ (compareOp _ (Value.int qp _) _) _ _ _); clear hm9; refine HoldA.mk ?_))
  (k_with "execs cons" => ((with_reducible show wpAny _ _ (execs (_ :: _) _) _ _ ⟨_, _, _, HAdd.hAdd _ _, _⟩); (try dsimp only); refine dropT ?_; intro tk9))
  (k_with "enter" => ((case h1 => k_is); (case h2 => k_is); (case h3 => decide); (case h4 => exact fun _ _ => BindsTo.of_eq rfl); (case h5 => exact locs rfl); (case c5 => decide);  (case c2 => exact rfl); (case c3 => exact rfl); (case c4 => exact rfl)))
  (k_with "pureuse" => ((case kF => k_asm); (case kN => k_asm); (case kX => k_asm); (case kT => k_asm); (case lo => exact ⟨rfl, rfl, Nat.le_of_ble_eq_true rfl, Nat.le_of_ble_eq_true rfl⟩); k_whole))
  (k_with "call ref" => ((with_reducible show wpAny _ _ (call (Value.ref 112) [Value.bytes _ _]) _ _ _); (refine' PureC.use (buffer_spec _ _ _) ?kF ?kN ?kX ?kT ?lo trivial ?_; walk_at "pureuse"); (intro v9 h9 tk9 F9 N9 k9 o9; subst o9; clear k9; (try dsimp only))))
  (k_with "call ref" => ((with_reducible show wpAny _ _ (call (Value.ref 105) [Value.bytes _ _]) _ _ _); (refine' PureC.use (ascii_buffer_spec _ _ _) ?kF ?kN ?kX ?kT ?lo trivial ?_; walk_at "pureuse"); (intro v9 h9 tk9 F9 N9 k9 o9; subst o9; clear k9; (try dsimp only))))
  (k_with "call ref" => ((with_reducible show wpAny _ _ (call (Value.ref 126) [Value.int _ _]) _ _ _); (refine' PureC.use (b64_value_spec _ _ _) ?kF ?kN ?kX ?kT ?lo trivial ?_; walk_at "pureuse"); (intro v9 h9 tk9 F9 N9 k9 o9; obtain ⟨t9, e9⟩ := o9; subst e9; clear k9; (try dsimp only))))
  (k_with "call ref" => ((with_reducible show wpAny _ _ (call (Value.ref 119) [Value.bool _]) _ _ _); (refine' PureC.use (truth_spec _ _) ?kF ?kN ?kX ?kT ?lo trivial ?_; walk_at "pureuse"); (intro v9 h9 tk9 F9 N9 k9 o9; subst o9; clear k9; (try dsimp only))))
  (k_with "subscriptTail" => ((with_reducible show wpAny _ _ (subscriptTail _ _ (Value.bytes _ _) (Value.int _ _)) _ _ _); (try dsimp only); (try simp (disch := omega) only [bitAnd_m6, bitAnd_m16, bitAnd_m4, bitAnd_m2, or8, or2, or4, or6, fdiv1, fdiv4, fdiv16, fdiv64, Int.reduceAdd, Int.reduceSub, Int.reduceToNat, Int.reducePow, Int.reduceMul]); k_dflt (refine' sub_B64 ?h0 ?h1 ?_ ?hs; (case h0 => omega); (case h1 => omega); (case hs => with_unfolding_all rfl); k_whole)))
  (k_with "storeName" => (simp (disch := omega) only [bitAnd_m6, bitAnd_m16, bitAnd_m4, bitAnd_m2, or8, or2, or4, or6, fdiv1, fdiv4, fdiv16, fdiv64, Int.reduceAdd, Int.reduceSub, Int.reduceToNat, Int.reducePow, Int.reduceMul]))
  (k_with "storeName" => dsimp only)
  (k_with "binaryOp LShift int int" => ((try dsimp only); (try simp (disch := omega) only [bitAnd_m6, bitAnd_m16, bitAnd_m4, bitAnd_m2]); (refine lshift_int_small (by lia) (by lia) (by lia) ?_)))
  trivial
theorem ite_neg {c : Prop} [Decidable c] {P R : Prop} (h : ¬ c) (q : R) : if c then P else R := by rw [if_neg h]; exact q
theorem ite_pos {c : Prop} [Decidable c] {P R : Prop} (h : c) (q : P) : if c then P else R := by rw [if_pos h]; exact q
theorem kw_A2b_2 : True := by
  (k_with "ite" => (first | (refine' ite_neg ?ih ?_; (case ih => lia)) | (refine' ite_pos ?ih ?_; (case ih => lia)) | (refine' ite_neg ?ih ?_; (case ih => simp only [decide_eq_true_eq]; lia)) | (refine' ite_pos ?ih ?_; (case ih => simp only [decide_eq_true_eq]; lia))))
  (k_with "call builtin:list.append" => (simp (disch := omega) only [bitAnd_m6, bitAnd_m16, bitAnd_m4, bitAnd_m2, or8, or2, or4, or6, fdiv1, fdiv4, fdiv16, fdiv64, Int.reduceAdd, Int.reduceSub, Int.reduceToNat, Int.reducePow, Int.reduceMul]))
  trivial
def decStep (st : Int × Int × List Int) (c : Int) : Int × Int × List Int :=
  if st.1 = 0 then (1, b64v c, st.2.2)
  else if st.1 = 1 then (2, b64v c % 16, st.2.2 ++ [st.2.1 * 4 + b64v c / 16])
  else if st.1 = 2 then (3, b64v c % 4, st.2.2 ++ [st.2.1 * 16 + b64v c / 4])
  else (0, 0, st.2.2 ++ [st.2.1 * 64 + b64v c])
structure DecOk (st : Int × Int × List Int) (n : Nat) : Prop where
  qp : (st.1 = 0 ∧ st.2.1 = 0) ∨ (st.1 = 1 ∧ 0 ≤ st.2.1 ∧ st.2.1 < 64) ∨ (st.1 = 2 ∧ 0 ≤ st.2.1 ∧ st.2.1 < 16) ∨ (st.1 = 3 ∧ 0 ≤ st.2.1 ∧ st.2.1 < 4)
  mod : st.1 = (n : Int) % 4
  len : st.2.2.length ≤ n
  ran : ∀ x ∈ st.2.2, 0 ≤ x ∧ x < 256
theorem b64v_nonneg {c : Int} (h : 0 ≤ c) : 0 ≤ b64v c := by unfold b64v; (repeat' split) <;> lia
theorem DecOk.step {st : Int × Int × List Int} {n : Nat} {c : Int} (h : DecOk st n) (h0 : 0 ≤ c) (h1 : b64v c < 64) : DecOk (decStep st c) (n + 1) := by
  obtain ⟨qp, md, len, ran⟩ := h
  have hv := b64v_nonneg h0
  unfold decStep
  rcases qp with ⟨q, l⟩ | ⟨q, l0, l1⟩ | ⟨q, l0, l1⟩ | ⟨q, l0, l1⟩
  · rw [if_pos q]
    exact ⟨.inr (.inl ⟨rfl, hv, h1⟩), by dsimp only; lia, by dsimp only; lia, ran⟩
  · rw [if_neg (by lia), if_pos q]
    exact ⟨.inr (.inr (.inl ⟨rfl, by dsimp only; lia, by dsimp only; lia⟩)), by dsimp only; lia, by simp only [List.length_append, List.length_singleton]; lia, ran_snoc ran (by lia)⟩
  · rw [if_neg (by lia), if_neg (by lia), if_pos q]
    exact ⟨.inr (.inr (.inr ⟨rfl, by dsimp only; lia, by dsimp only; lia⟩)), by dsimp only; lia, by simp only [List.length_append, List.length_singleton]; lia, ran_snoc ran (by lia)⟩
  · rw [if_neg (by lia), if_neg (by lia), if_neg (by lia)]
    exact ⟨.inl ⟨rfl, rfl⟩, by dsimp only; lia, by simp only [List.length_append, List.length_singleton]; lia, ran_snoc ran (by lia)⟩
theorem DecOk.fold : ∀ (cs : List Int) {st : Int × Int × List Int} {n : Nat}, DecOk st n → (∀ c ∈ cs, 0 ≤ c ∧ b64v c < 64) → DecOk (cs.foldl decStep st) (n + cs.length)
  | [], _, _, h, _ => h
  | c :: r, st, n, h, hc => by
    have := DecOk.fold r (h.step (hc c (.head _)).1 (hc c (.head _)).2) fun x hx => hc x (.tail _ hx)
    rw [List.length_cons, ← Nat.add_assoc, Nat.add_right_comm]; exact this
theorem DecOk.all (cs : List Int) (hc : ∀ c ∈ cs, 0 ≤ c ∧ b64v c < 64) : DecOk (cs.foldl decStep (0, 0, [])) cs.length := by
  have := DecOk.fold cs (st := (0, 0, [])) (n := 0) ⟨.inl ⟨rfl, rfl⟩, by decide, by decide, fun _ h => nomatch h⟩ hc
  rw [Nat.zero_add] at this; exact this
inductive A2bJ (cs : List Int) (i : Nat) (m : Str → Option Value) (nx : List (Addr × Obj)) : Prop
  | mk (a : Addr) (its : Array Value) (k : Nat) (qp lc pads ii : Int) (out : List Int) (t1 t2 t3 t4 : Tok) (h0 : nx = [(a, W.listOf its k)]) (h1 : IntsAre its.toList out) (h2 : m (Str.ofString "out") = some (.ref a)) (h3 : m (Str.ofString "quad_pos") = some (.int qp t1)) (h4 : m (Str.ofString "leftchar") = some (.int lc t2)) (h5 : m (Str.ofString "pads") = some (.int pads t3)) (h6 : m (Str.ofString "i") = some (.int ii t4)) (h7 : m (Str.ofString "strict_mode") = some (.bool true)) (h8 : (qp, lc, out) = (cs.take i).foldl decStep (0, 0, [])) (h9 : pads = ((i - cs.length : Nat) : Int)) (h10 : 0 ≤ ii) : A2bJ cs i m nx
structure Padded (ks cs : List Int) (p : Nat) : Prop where
  eq : ks = cs ++ List.replicate p 61
  ran : ∀ c ∈ cs, 0 ≤ c ∧ c < 256 ∧ b64v c < 64
  pad : (cs.length % 4 = 0 ∧ p = 0) ∨ (cs.length % 4 = 2 ∧ p = 2) ∨ (cs.length % 4 = 3 ∧ p = 1)
theorem b64v_ne {c : Int} (h : b64v c < 64) : c ≠ 61 := by rintro rfl; exact absurd h (by decide)
theorem endPc {h₀ : Heap} {L : Addr} {J : (Str → Option Value) → List (Addr × Obj) → Prop} {own : List (Addr × Obj)} {s₁ s₂ : Shared} {Q P : Flow → Shared → Prop} (hP : P = InvPostG h₀ L J own s₁ Q) (h : InvEndG h₀ L J own s₁ s₂) : P .cont s₂ := by subst hP; exact h
theorem a2b_spec (w : World) (b : Array UInt8) (t : Tok) (cs : List Int) (p : Nat) (hsz : b.size ≤ 100000) (hp : Padded (KBw.bInts b) cs p) :
   PureC w 2 134 [.bytes b t] [(Str.ofString "strict_mode", .bool true)] (fun _ => True) (fun _ _ v => ∃ t', v = .bytes (byteArr (cs.foldl decStep (0, 0, [])).2.2) t') := by
  refine' enterP [(Str.ofString "data", .bytes b t), (Str.ofString "strict_mode", .bool true)] ?h1 ?h2 ?h3 ?h4 ?h5 ?_ ?c2 ?c3 ?c4 ?c5
  walk_at "enter"
  intro s p' loose' mg' mb' L' h' tk' pre' F' N' X' T' P' hP'
  k_steps
  (rename Fr _ _ _ _ => F1); (rename News _ _ _ _ => N1)
  refine loop_bytes (fun i m nx => A2bJ cs i m nx) rfl F1 N1 ?_ ?_ ?_
  · exact ⟨_, _, _, _, _, _, _, _, _, _, _, _, rfl, .nil, rfl, rfl, rfl, rfl, rfl, rfl, rfl, by simp, by decide⟩
  · intro i c u m₁ nx h tk own hc hoff hJ F₁ N₁
    refine genF fun P1 hPa => ?_
    obtain ⟨a, its, k, qp, lc, pads, ii, out, t1, t2, t3, t4, rfl, hI, ha, hqp, hlc, hpd, hii, hsm, hst, hpads, hii0⟩ := hJ
    replace F₁ := Fr.knownIf F₁ [(Str.ofString "out", .ref a), (Str.ofString "quad_pos", .int qp t1), (Str.ofString "leftchar", .int lc t2), (Str.ofString "pads", .int pads t3), (Str.ofString "i", .int ii t4), (Str.ofString "strict_mode", .bool true)] (by simp [ha, hqp, hlc, hpd, hii, hsm])
    have hci := KBw.ints_get hc
    have hlen9 : (KBw.bInts b).length ≤ 100000 := by rw [KBw.ints_length]; exact hsz
    rw [hp.eq] at hci hlen9
    have hcsl : cs.length ≤ 100000 := by rw [List.length_append] at hlen9; lia
    have hok := DecOk.all (cs.take i) fun c hc => ⟨(hp.ran c (List.mem_of_mem_take hc)).1, (hp.ran c (List.mem_of_mem_take hc)).2.2⟩
    rw [← hst] at hok
    obtain ⟨hq, hmod, hlen, hran⟩ := hok
    have hvl : its.size ≤ 100000 := by clear hq; have := hI.length; rw [Array.length_toList] at this; dsimp only at hlen; rw [List.length_take] at hlen; lia
    simp only [List.map_cons, List.map_nil, List.singleton_append] at hoff N₁
    dsimp only at hq hmod
    rw [List.length_take] at hmod
    clear hlen hran hlen9
    by_cases hi : i < cs.length
    · have hci' : cs[i]? = some (c.toNat : Int) := by rwa [List.getElem?_append_left hi] at hci
      have hcm := hp.ran _ (List.mem_of_getElem? hci')
      have hs1 : (cs.take (i + 1)).foldl decStep (0, 0, []) = decStep (qp, lc, out) (c.toNat : Int) := by
        rw [List.take_add_one, hci', List.foldl_append, ← hst]; rfl
      have hp0 : pads = 0 := by lia
      have hp1 : (0 : Int) = ((i + 1 - cs.length : Nat) : Int) := by lia
      obtain ⟨hc0, hc1, hv1⟩ := hcm
      have hne := b64v_ne hv1
      have hv0 := b64v_nonneg hc0
      clear hci hst hc hpads hmod hci'
      subst hp0
      generalize (c.toNat : Int) = cb at *
      have hm9 := MarkA2.mk
      replace hq : HoldA _ := hq
      k_steps
      unfold HoldA
      unfold HoldA at hq
      rcases hq with ⟨q, l⟩ | ⟨q, l0, l1⟩ | ⟨q, l0, l1⟩ | ⟨q, l0, l1⟩
      · subst q; subst l
        k_steps
        refine endP hPa (InvEndG.intro (nx := [_]) (by k_asm) (by k_asm) ⟨a, _, _, _, _, _, _, _, _, _, _, _, rfl, hI, rfl, rfl, rfl, rfl, rfl, rfl, (by rw [hs1]; rfl), hp1, (by lia)⟩ hoff (by intro p hp; rw [List.mem_singleton.mp hp]; exact .head _) (fun p hp => .tail _ hp))
      · subst q
        k_steps
        refine endP hPa (InvEndG.intro (nx := [_]) (by k_asm) (by k_asm) ⟨a, _, _, _, _, _, _, _, _, _, _, _, rfl, Mine.IntsAre.push hI _ _, rfl, rfl, rfl, rfl, rfl, rfl, (by rw [hs1]; rfl), hp1, (by lia)⟩ hoff (by intro p hp; rw [List.mem_singleton.mp hp]; exact .head _) (fun p hp => .tail _ hp))
      · subst q
        k_steps
        refine endP hPa (InvEndG.intro (nx := [_]) (by k_asm) (by k_asm) ⟨a, _, _, _, _, _, _, _, _, _, _, _, rfl, Mine.IntsAre.push hI _ _, rfl, rfl, rfl, rfl, rfl, rfl, (by rw [hs1]; rfl), hp1, (by lia)⟩ hoff (by intro p hp; rw [List.mem_singleton.mp hp]; exact .head _) (fun p hp => .tail _ hp))
      · subst q
        k_steps
        refine endP hPa (InvEndG.intro (nx := [_]) (by k_asm) (by k_asm) ⟨a, _, _, _, _, _, _, _, _, _, _, _, rfl, Mine.IntsAre.push hI _ _, rfl, rfl, rfl, rfl, rfl, rfl, (by rw [hs1]; rfl), hp1, (by lia)⟩ hoff (by intro p hp; rw [List.mem_singleton.mp hp]; exact .head _) (fun p hp => .tail _ hp))
    · have hcs : cs.length ≤ i := Nat.le_of_not_lt hi
      have hci' : (List.replicate p (61 : Int))[i - cs.length]? = some (c.toNat : Int) := by rwa [List.getElem?_append_right hcs] at hci
      rw [List.getElem?_replicate] at hci'
      split at hci'
      · rename_i hlt
        have hc61 : (61 : Int) = (c.toNat : Int) := Option.some.inj hci'
        have hs1 : (cs.take (i + 1)).foldl decStep (0, 0, []) = (qp, lc, out) := by
          rw [hst, List.take_of_length_le hcs, List.take_of_length_le (by lia)]
        have hp1 : pads + 1 = ((i + 1 - cs.length : Nat) : Int) := by clear hq hmod; lia
        have hq2 : 2 ≤ qp ∧ qp + (pads + 1) ≤ 4 := by
          rw [Nat.min_eq_right hcs] at hmod
          clear hq
          rcases hp.pad with ⟨h1, h2⟩ | ⟨h1, h2⟩ | ⟨h1, h2⟩ <;> lia
        have hpd0 : 0 ≤ pads := by rw [hpads]; exact Int.natCast_nonneg _
        clear hst hc hpads hmod hci' hci hq
        generalize (c.toNat : Int) = cb at *
        subst hc61
        obtain ⟨hq2, hq3⟩ := hq2
        k_steps
        refine endPc hPa (InvEndG.intro (nx := [_]) (by k_asm) (by k_asm) ⟨a, _, _, _, _, _, _, _, _, _, _, _, rfl, hI, rfl, rfl, rfl, rfl, rfl, rfl, (by rw [hs1]), hp1, (by lia)⟩ hoff (by intro p hp; rw [List.mem_singleton.mp hp]; exact .head _) (fun p hp => .tail _ hp))
      · cases hci'
  · intro m₁ nx h tk hJ F₁ N₁
    obtain ⟨a, its, k, qp, lc, pads, ii, out, t1, t2, t3, t4, rfl, hI, ha, hqp, hlc, hpd, hii, hsm, hst, hpads, hii0⟩ := hJ
    replace F₁ := Fr.known F₁ [(Str.ofString "out", .ref a), (Str.ofString "quad_pos", .int qp t1), (Str.ofString "leftchar", .int lc t2), (Str.ofString "pads", .int pads t3), (Str.ofString "i", .int ii t4), (Str.ofString "strict_mode", .bool true)] (by simp [ha, hqp, hlc, hpd, hii, hsm])
    have hbl : b.size = cs.length + p := by rw [← KBw.ints_length, hp.eq, List.length_append, List.length_replicate]
    have hok := DecOk.all cs fun c hc => ⟨(hp.ran c hc).1, (hp.ran c hc).2.2⟩
    rw [List.take_of_length_le (by lia)] at hst
    rw [← hst] at hok hP'
    obtain ⟨hq, hmod, hlen, hran⟩ := hok
    dsimp only at hq hmod hlen hran hP'
    have hvl : its.size ≤ 100000 := by clear hq; have := hI.length; rw [Array.length_toList] at this; lia
    have hfin : (qp = 0) ∨ (qp ≠ 0 ∧ qp ≠ 1 ∧ qp + pads = 4) := by
      clear hq
      rcases hp.pad with ⟨h1, h2⟩ | ⟨h1, h2⟩ | ⟨h1, h2⟩ <;> lia
    clear hst hpads hmod hlen hq
    rcases hfin with rfl | ⟨hf1, hf2, hf3⟩
    all_goals (
      k_steps
      all_goals first
        | exact hP' _ _ (Done.intro (by assumption) ⟨_, rfl⟩)
        | (refine' bytes_call ?bF ?bN (.head _) hI hran (by lia) rfl fun h8 t8 tk8 F8 N8 => ?_
           case bF => k_asm
           case bN => k_asm
           k_steps
           exact hP' _ _ (Done.intro (by assumption) ⟨_, rfl⟩)))
end Mine
end
section
open PySem PySem.W PySem.Calls PyProof.Rows
set_option maxRecDepth 100000
namespace Mine
open Builtin
/-- a call of a plain built-in whose arguments pass its check -/
theorem call_checked {prog : Program} {w : World} {A : Around} {E : Value → Shared → Prop} {s : Shared} {id : String} {B : Builtin} {args : List Value} {S : PySem.Spec} {Q : Value → Shared → Prop} (plain : plainId id = true)
    (entry : entryFor table id = some B) (ck : checkBuiltinCall id ⟨args, []⟩ = pure ()) (g : Meets (B ⟨args, []⟩) S) (h : S A (wants Q E) s) : wpAny (model prog w) A (call (.builtin id) args) Q E s :=
  wpAny_call (codeAny_call_builtin plain entry (by rw [ck]; exact wpAny_pure (g prog w A (wants Q E) s h)))
section
variable {prog : Program} {w : World} {A : Around} {E : Value → Shared → Prop} {s : Shared} {h₀ : Heap} {L : Addr} {m : Str → Option Value} {news : List (Addr × Obj)} {K : Frag}

/-- bytes.maketrans -/
def trTab (f t : Array UInt8) : Array UInt8 := (f.toList.zip t.toList).foldl (fun t (p : UInt8 × UInt8) => t.setIfInBounds p.1.toNat p.2) ((Array.range 256).map (·.toUInt8))
theorem mk_plain : plainId "bytes.maketrans" = true := by decide +kernel
theorem mk_entry : entryFor table "bytes.maketrans" = some Builtin.«bytes.maketrans» := entryFor_of_tree (by kernel_rfl)
theorem mk_check (a b : Value) : checkBuiltinCall "bytes.maketrans" ⟨[a, b], []⟩ = pure () := by kernel_rfl
theorem mk_meets {f t : Array UInt8} {u v : Tok} (hs : f.size = t.size) (hz : (trTab f t).size ≤ sizeLine) :
    Meets (Builtin.«bytes.maketrans» ⟨[.bytes f u, .bytes t v], []⟩) (fun _ R s => R (.ok (.ret (.bytes (trTab f t) s.toks))) { s with toks := s.toks + 1 }) := by
  refine .of_wp fun prog w A R s h => ?_
  unfold Builtin.«bytes.maketrans» Bytes.maketransM
  refine wpAny_bind (wpAny_of_eq (a := ()) (by first | rfl | kernel_rfl) ?_)
  refine wpAny_bind (wpAny_of_eq (a := ()) (by first | rfl | kernel_rfl) ?_)
  refine wpAny_bind (wpAny_of_eq (KBd.like_eq (b := f) (t := u)) ?_)
  refine wpAny_bind (wpAny_of_eq (KBd.like_eq (b := t) (t := v)) ?_)
  dsimp only
  rw [hs]
  simp only [bne_self_eq_false, Bool.false_eq_true, if_false]
  refine wpAny_bind ?_
  show wpAny _ _ (mkBytes (trTab f t)) _ _ _
  unfold mkBytes
  rw [if_neg (by lia)]
  exact wpAny_bind (wpAny_fresh (wpAny_pure (wpAny_pure ⟨_, rfl, h⟩)))
theorem call_maketrans {f t : Array UInt8} {u v : Tok} {Q : Value → Shared → Prop} (hs : f.size = t.size) (hz : (trTab f t).size ≤ sizeLine) (h : Q (.bytes (trTab f t) s.toks) { s with toks := s.toks + 1 }) :
    wpAny (model prog w) A (call (.builtin "bytes.maketrans") [.bytes f u, .bytes t v]) Q E s :=
  call_checked mk_plain mk_entry (mk_check _ _) (mk_meets hs hz) h

theorem gm_maketrans {pl : Sem Bool} {Q : Value × List Value → Shared → Prop} (X : K.In s.heap)
    (h : Q (.builtin "bytes.maketrans", []) { s with toks := s.toks + 1 }) :
    wpAny (model prog w) A (getMethod (.type "bytes") (PySem.Str.ofString "maketrans") pl) Q E s := by
  have e : findCls K (.type "bytes") (.type "type") (PySem.Str.ofString "maketrans") = some (.val (.builtin "bytes.maketrans")) := by kernel_rfl
  have hstub : opaqueClassAbove (.type "bytes") = pure none := by unfold opaqueClassAbove; dsimp only; rw [show Manifest.isStub "bytes" = false by decide +kernel]; rfl
  have ht : typeOf (.type "bytes") = pure (.type "type") := by first | rfl | kernel_rfl
  have L0 : Looks (model prog w) s.heap (typeOf (.type "bytes")) (.type "type") := Looks.of_pure ht
  have hg : findIn K (.type "type") "__getattribute__" = some (some (.builtin "type.__getattribute__")) := type_tga
  unfold getMethod specialOf
  refine wpAny_bind (wpAny_bind (L0.here ((looks_findIn X hg).here ?_)))
  dsimp only
  rw [if_pos canon_tga]
  refine wpAny_bind (wpAny_mono (Q := fun v => Q (v, [])) (E := E) ?_ (fun _ _ z => wpAny_pure z) fun _ _ z => z)
  have LO : Looks (model prog w) s.heap (opaqueClassAbove (.type "bytes")) none := Looks.of_pure hstub
  refine cls_open X LO L0 hg (looks_hook X (r := none) (by rfl)) (by show subIn K _ _ = _; rfl) e ?_
  exact wpAny_pure (wpAny_pure h)

/-- bytes.translate -/
theorem tr_slot : Slot "bytes" "translate" "bytes.translate" :=
  .of (owner := "bytes") (n := "translate") (by rw [typeLookup_type, builtinLookup_eq_fast]; kernel_rfl) (by decide +kernel) (by decide +kernel) (by decide +kernel)
    (by first | exact .inl (by decide +kernel) | exact .inr (by decide +kernel)) (by rw [isSubtype_type]; kernel_rfl)
theorem tr_type : typeOf (.builtin "bytes.translate") = pure (.type "method_descriptor") := by show builtinType _ = _; rw [builtinType_eq_fast]; kernel_rfl
theorem tr_entry : entryFor table "bytes.translate" = some Builtin.«bytes.translate» := entryFor_of_tree (by kernel_rfl)
theorem tr_args (a b : Value) : argsOk "bytes.translate" ⟨[a, b], []⟩ := by unfold argsOk; kernel_rfl
theorem gm_translate {M : Model} {b : Array UInt8} {t : Tok} {pl : Sem Bool} {Q : Value × List Value → Shared → Prop} (h : Q (.builtin "bytes.translate", [.bytes b t]) s) : wpAny M A (getMethod (.bytes b t) "translate" pl) Q E s := by
  with_reducible exact KBd.method_of (.bytes b t) (typeIs_bytes _ _ _) tr_slot tr_type KBd.noRef h
def trBy (tb b : Array UInt8) : Array UInt8 := b.map fun c => tb.getD c.toNat c
theorem tr_meets {b tb : Array UInt8} {t u : Tok} (h256 : tb.size = 256) (hz : b.size ≤ sizeLine) :
    Meets (Builtin.«bytes.translate» ⟨[.bytes b t, .bytes tb u], []⟩) (fun _ R s => ∀ t' k, R (.ok (.ret (.bytes (trBy tb b) t'))) { s with toks := k }) := by
  refine .of_wp fun prog w A R s h => ?_
  unfold Builtin.«bytes.translate» Bytes.translateM
  dsimp only [List.length_cons, List.length_nil, List.any_nil]
  simp only [Nat.add_zero, Nat.zero_add, gt_iff_lt, if_false, Bool.false_eq_true, show ¬ (2 < 1) by decide, show (Value.bytes tb u == Value.none) = false from rfl]
  refine wpAny_bind (wpAny_of_eq (KBd.like_eq (b := tb) (t := u)) ?_)
  rw [h256]
  simp only [bne_self_eq_false, Bool.false_eq_true, if_false]
  refine wpAny_bind (wpAny_pure ?_)
  show wpAny _ _ (pure #[] >>= fun delete => _) _ _ _
  refine wpAny_bind (wpAny_pure ?_)
  refine wpAny_bind (wpAny_of_eq (a := b) rfl ?_)
  dsimp only
  have ef : (b.filter fun x => !((#[] : Array UInt8).contains x)) = b := by simp
  rw [ef]
  show wpAny _ _ (if (trBy tb b == b) = true then _ else _) _ _ _
  refine wpAny_ite ?_
  split
  · rename_i he
    have he' : trBy tb b = b := by simpa using he
    rw [he'] at h
    refine wpAny_bind (wpAny_rule ?_)
    refine wpAny_bind (wpAny_of_eq (a := .bytes b t) rfl ?_)
    exact wpAny_pure ⟨_, rfl, h t s.toks⟩
  · refine wpAny_bind ?_
    show wpAny _ _ (mkBytes (trBy tb b)) _ _ _
    unfold mkBytes
    rw [if_neg (by unfold trBy; rw [Array.size_map]; lia)]
    exact wpAny_bind (wpAny_fresh (wpAny_pure (wpAny_pure ⟨_, rfl, h _ _⟩)))
theorem call_translate {b tb : Array UInt8} {t u : Tok} {Q : Value → Shared → Prop} (h256 : tb.size = 256) (hz : b.size ≤ sizeLine) (h : ∀ t' k, Q (.bytes (trBy tb b) t') { s with toks := k }) :
    wpAny (model prog w) A (call (.builtin "bytes.translate") [.bytes b t, .bytes tb u]) Q E s :=
  call_meets tr_slot (typeIs_bytes _ _ _) tr_entry (tr_args _ _) (tr_meets h256 hz) h

/-- str.encode -/
theorem gm_encode {M : Model} {x : Str} {t : Tok} {pl : Sem Bool} {Q : Value × List Value → Shared → Prop} (h : Q (.builtin "str.encode", [.str x t]) s) : wpAny M A (getMethod (.str x t) "encode" pl) Q E s := by
  with_reducible exact GM.of (.str x t) (typeIs_str _ _ _) F.slot_str_encode F.type_str_encode GM.noRef h
theorem enc_plus (t : Tok) : «str.encode» ⟨[.str (Str.ofString "+/") t], []⟩ = (mkBytes #[43, 47] >>= fun v => ret v) := by kernel_rfl
theorem enc_minus (t : Tok) : «str.encode» ⟨[.str (Str.ofString "-_") t], []⟩ = (mkBytes #[45, 95] >>= fun v => ret v) := by kernel_rfl
theorem call_encode_of {x : Str} {b : Array UInt8} {t : Tok} {Q : Value → Shared → Prop} (e : «str.encode» ⟨[.str x t], []⟩ = (mkBytes b >>= fun v => ret v)) (hz : b.size ≤ sizeLine) (h : ∀ t' k, Q (.bytes b t') { s with toks := k }) :
    wpAny (model prog w) A (call (.builtin "str.encode") [.str x t]) Q E s := by
  refine call_meets (S := fun _ R s => ∀ t' k, R (.ok (.ret (.bytes b t'))) { s with toks := k }) F.slot_str_encode (typeIs_str _ _ _) F.entry_str_encode (F.args_str_encode_1 _) (.of_wp fun prog w A R s h => ?_) h
  rw [e]
  unfold mkBytes
  rw [if_neg (by lia)]
  exact wpAny_bind (wpAny_bind (wpAny_fresh (wpAny_pure (wpAny_pure ⟨_, rfl, h _ _⟩))))
theorem forIn_two {β : Type} {f : Nat → β → Sem (ForInStep β)} {n : Nat} {b0 b1 : β} (h0 : ∀ x, f x b0 = pure (.yield b1)) (h1 : ∀ x, f x b1 = pure (.done b1)) (hn : n ≠ 0) : forIn [:n] b0 f = (pure b1 : Sem β) := by
  rw [KPc.range_list]
  have two : ∀ l : List Nat, forIn l b1 f = (pure b1 : Sem β) := by
    intro l
    cases l with
    | nil => rfl
    | cons a l => rw [List.forIn_cons, h1]; rfl
  cases n with
  | zero => exact absurd rfl hn
  | succ n =>
    rw [List.range'_succ, List.forIn_cons, h0]
    exact two _
theorem narrow_ascii {id : String} {self : Value} {x : Str} (hx : ∀ c ∈ x.cps.toList, c < 128) (hz : x.cps.size ≤ sizeLine) : _codecs.encodeNarrow id _codecs.asciiCodec none self x = pure (x.cps.map (·.toUInt8)) := by
  by_cases hn : x.length = 0
  · have e : x.cps = #[] := by have : x.cps.size = 0 := hn; simpa using this
    unfold _codecs.encodeNarrow
    dsimp only
    rw [hn, KPc.range_list, e, show (Array.map (fun x : Nat => x.toUInt8) #[]) = #[] by simp]; rfl
  · have hbad : ∀ c ∈ x.cps.toList, _codecs.asciiCodec.bad c = false := fun c hc => by
      have := hx c hc
      simp [_codecs.asciiCodec]; lia
    have hfold : ∀ (l : List Nat) (acc : Array UInt8), l.foldl (fun acc y => acc ++ (_codecs.asciiCodec.bytesOf y).toArray) acc = acc ++ (l.map (·.toUInt8)).toArray := by
      intro l
      induction l with
      | nil => intro acc; simp
      | cons a l ih => intro acc; rw [List.foldl_cons, ih]; simp [_codecs.asciiCodec]
    unfold _codecs.encodeNarrow
    dsimp only
    rw [forIn_two (b1 := (x.length, x.cps.map (·.toUInt8), {}))]
    · rfl
    · intro y
      have hs : x.cps.size ≠ 0 := hn
      have h0 : x.cps[0]? = some (x.cps[0]'(by lia)) := by simp
      have hb0 := hbad (x.cps[0]'(by lia)) (by simp)
      dsimp only
      rw [if_neg (by simp), h0]
      dsimp only
      rw [hb0]
      have hfi : x.cps.findIdx? _codecs.asciiCodec.bad = none := by
        rw [Array.findIdx?_eq_none_iff]
        intro c hc
        exact hbad c (by simpa using hc)
      have e1 : x.cps.extract 0 = x.cps := by simp
      simp only [Array.extract_size, hfi, Bool.not_false, if_true, Option.getD_none, Nat.zero_add]
      rw [← Array.foldl_toList, hfold]
      have em : (x.cps.toList.map (·.toUInt8)).toArray = x.cps.map (·.toUInt8) := by rw [← Array.toList_map, Array.toArray_toList]
      rw [em, Array.empty_append]; rfl
    · intro y
      dsimp only
      rw [if_neg (by simp; lia)]
      have : x.cps[x.length]? = none := by simp [Str.length]
      rw [this]
    · exact hn
theorem enc_ascii {x : Str} {t u : Tok} : «str.encode» ⟨[.str x t, .str (Str.ofString "ascii") u], []⟩ = ((_codecs.encodeNarrow "str.encode" _codecs.asciiCodec none (.str x t) x >>= fun b => mkBytes b) >>= fun v => ret v) := by kernel_rfl
theorem call_encode_ascii {x : Str} {t u : Tok} {Q : Value → Shared → Prop} (hx : ∀ c ∈ x.cps.toList, c < 128) (hz : x.cps.size ≤ sizeLine) (h : ∀ t' k, Q (.bytes (x.cps.map (·.toUInt8)) t') { s with toks := k }) :
    wpAny (model prog w) A (call (.builtin "str.encode") [.str x t, .str (Str.ofString "ascii") u]) Q E s := by
  refine call_meets (S := fun _ R s => ∀ t' k, R (.ok (.ret (.bytes (x.cps.map (·.toUInt8)) t'))) { s with toks := k }) F.slot_str_encode (typeIs_str _ _ _) F.entry_str_encode (F.args_str_encode_2 _ _) (.of_wp fun prog w A R s h => ?_) h
  rw [enc_ascii, narrow_ascii hx hz]
  refine wpAny_bind (wpAny_bind (wpAny_pure ?_))
  unfold mkBytes
  rw [if_neg (by rw [Array.size_map]; lia)]
  exact wpAny_bind (wpAny_fresh (wpAny_pure (wpAny_pure ⟨_, rfl, h _ _⟩)))

/-- bytes.decode() -/
theorem forIn_steps {β : Type} (f : Nat → β → Sem (ForInStep β)) (st : Nat → β) : ∀ (n k : Nat), (∀ x i, k ≤ i → i < k + n → f x (st i) = pure (.yield (st (i + 1)))) → ∀ j, forIn (List.range' j n 1) (st k) f = (pure (st (k + n)) : Sem β)
  | 0, k, _, j => rfl
  | n + 1, k, h, j => by
    rw [List.range'_succ, List.forIn_cons, h _ k (Nat.le_refl _) (by lia)]
    have := forIn_steps f st n (k + 1) (fun x i h1 h2 => h x i (by lia) (by lia)) (j + 1)
    rw [show k + 1 + n = k + (n + 1) by lia] at this
    exact this
theorem utf8_ascii {id : String} {b : Array UInt8} (hb : ∀ c ∈ b.toList, c.toNat < 128) (hz : b.size ≤ sizeLine) : _codecs.runDecoder id _codecs.utf8Decoder none true b 0 [] = pure (b.map (·.toNat), b.size) := by
  unfold _codecs.runDecoder
  dsimp only
  rw [KPc.range_list]
  refine (congrArg (fun x => x >>= _) (forIn_steps _ (fun i => (i, ((b.toList.take i).map (·.toNat)).toArray, ({ held := [] } : _codecs.Faults))) b.size 0 ?_ 0)).trans ?_
  · intro x i _ hi
    have hi' : i < b.size := by lia
    have hsz : ((b.toList.take i).map (·.toNat)).toArray.size ≤ sizeLine := by simp; lia
    dsimp only
    rw [if_neg (by lia), if_neg (by lia)]
    have hc := hb b[i] (by simp)
    have hf : _codecs.utf8Decoder.find true b i = .text [b[i].toNat] (i + 1) := by
      unfold _codecs.utf8Decoder Bytes.utf8At
      have hg : b.getD i 0 = b[i] := by simp [Array.getD, hi']
      dsimp only
      rw [hg, if_pos hc]
      rfl
    rw [hf]
    dsimp only
    congr 3
    have ht : b.toList.take (i + 1) = b.toList.take i ++ [b[i]] := by
      rw [List.take_add_one]; simp [hi']
    rw [ht, List.map_append]; simp
  · have em : ((b.toList.take (0 + b.size)).map (·.toNat)).toArray = b.map (·.toNat) := by
      rw [Nat.zero_add, List.take_of_length_le (by simp), ← Array.toList_map, Array.toArray_toList]
    show (pure (((b.toList.take (0 + b.size)).map (·.toNat)).toArray, 0 + b.size) : Sem (Array Nat × Nat)) = pure _
    rw [em, Nat.zero_add]
theorem dec_nil {t : Tok} : «bytes.decode» ⟨[.bytes #[] t], []⟩ = (rule "bytes.decode.empty" >>= fun _ => mkStr (Str.ofString "") >>= fun v => ret v) := by kernel_rfl
theorem call_decode {b : Array UInt8} {t : Tok} {Q : Value → Shared → Prop} (hb : ∀ c ∈ b.toList, c.toNat < 128) (hz : b.size ≤ sizeLine) (h : ∀ t' k, Q (.str ⟨b.map (·.toNat)⟩ t') { s with toks := k }) :
    wpAny (model prog w) A (call (.builtin "bytes.decode") [.bytes b t]) Q E s := by
  obtain ⟨l⟩ := b
  cases l with
  | nil =>
    refine call_meets (S := fun _ R s => ∀ t' k, R (.ok (.ret (.str ⟨(#[] : Array UInt8).map (·.toNat)⟩ t'))) { s with toks := k }) FB.slot_bytes_decode (typeIs_bytes _ _ _) FB.entry_bytes_decode (FB.args_bytes_decode_1 _) (.of_wp fun prog w A R s h => ?_) h
    show wpAny _ _ («bytes.decode» ⟨[.bytes #[] t], []⟩) _ _ _
    rw [dec_nil]
    refine wpAny_bind (wpAny_rule (wpAny_bind (wpAny_mkStr (wpAny_pure ⟨_, rfl, ?_⟩) (by decide))))
    have e : (⟨(#[] : Array UInt8).map (·.toNat)⟩ : Str) = Str.ofString "" := by simp [Str.ofString]; rfl
    rw [e] at h
    exact h _ _
  | cons c cs => exact KBd.decode (c := c) (cs := cs) (x := ⟨((c :: cs).toArray).map (·.toNat)⟩) (n := (c :: cs).toArray.size) (fun id => utf8_ascii hb hz) (by rw [← sizeLine_eq]; show (Array.map _ _).size ≤ _; rw [Array.size_map]; exact hz) h
end
end Mine
end
section
open PySem PySem.W PySem.Calls PyProof.Rows
namespace Mine
set_option maxRecDepth 100000
set_option maxHeartbeats 8000000
theorem kw_B64_0 : True := by
  k_with_none
  trivial
theorem kw_B64_1 : True := by
  (k_with "execs cons" => ((with_reducible show wpAny _ _ (execs (_ :: _) _) _ _ ⟨_, _, _, HAdd.hAdd _ _, _⟩); (try dsimp only); refine dropT ?_; intro tk9))
  (k_with "enter" => ((case h1 => k_is); (case h2 => k_is); (case h3 => decide); (case h4 => first | exact fun _ _ => BindsTo.of_eq rfl | exact fun _ kn => kp_binds kn.X (fun _ => rfl)); (case h5 => exact locs rfl); (case c5 => decide);  (case c2 => exact rfl); (case c3 => exact rfl); (case c4 => exact rfl)))
  (k_with "pureuse" => ((case kF => k_asm); (case kN => k_asm); (case kX => k_asm); (case kT => k_asm); (case lo => exact ⟨rfl, rfl, Nat.le_of_ble_eq_true rfl, Nat.le_of_ble_eq_true rfl⟩); k_whole))
  (k_with "call ref" => ((with_reducible show wpAny _ _ (call (Value.ref 142) [Value.bytes _ _] _) _ _ _); (refine' PureC.use (b2a_spec _ _ _ (by assumption)) ?kF ?kN ?kX ?kT ?lo trivial ?_; walk_at "pureuse"); (intro v9 h9 tk9 F9 N9 k9 o9; obtain ⟨t9, e9⟩ := o9; subst e9; clear k9; (try dsimp only))))
  (k_with "getMethod bytes" => (refine gm_translate ?_))
  (k_with "getMethod type:bytes" => (refine' gm_maketrans (K := Mine.hd.heap_39 _) ?gx ?_; (case gx => k_in)))
  trivial
theorem enc64_len (ks : List Int) : (enc64 ks).length ≤ 2 * ks.length + 3 := by
  have h := (EncOk.all ks).len
  unfold enc64 encFin
  split
  · simp only [List.length_append, List.length_singleton]; lia
  · split
    · simp only [List.length_append, List.length_singleton]; lia
    · lia
theorem enc_fits {b : Array UInt8} (hsz : b.size ≤ 100000) : (byteArr (enc64 (KBw.bInts b))).size ≤ sizeLine := by
  rw [byteArr_size, sizeLine_eq]; have := enc64_len (KBw.bInts b); rw [KBw.ints_length] at this; lia
theorem trTab_size {f t : Array UInt8} : (trTab f t).size = 256 := by
  unfold trTab
  have : ∀ (l : List (UInt8 × UInt8)) (a : Array UInt8), (l.foldl (fun t (p : UInt8 × UInt8) => t.setIfInBounds p.1.toNat p.2) a).size = a.size := by
    intro l
    induction l with
    | nil => intro a; rfl
    | cons p l ih => intro a; rw [List.foldl_cons, ih, Array.size_setIfInBounds]
  rw [this]; simp
theorem eqI_t {prog : Program} {w : World} {A : Around} {E : Value → Shared → Prop} {s : Shared} {a b : Int} {t u : Tok} {Q : Value → Shared → Prop} (h : a = b) (hq : Q (.bool true) s) : wpAny (model prog w) A (compareOp .Eq (.int a t) (.int b u)) Q E s := by
  refine eq_int ?_
  rw [show (a == b) = true from beq_iff_eq.mpr h]; exact hq
theorem kw_B64_2 : True := by
  (k_with "compareOp Eq int int" => (refine eqI_t (by lia) ?_))
  (k_with "call builtin:bytes.maketrans" => (refine call_maketrans (by first | exact hs2 | exact hs2.symm) (by rw [trTab_size]; decide) ?_))
  (k_with "call builtin:bytes.translate" => (refine call_translate trTab_size (enc_fits (by assumption)) ?_; intro t9 k9))
  trivial
theorem b64encode_spec (w : World) (b : Array UInt8) (t : Tok) (al : Array UInt8) (u : Tok) (hal : al = #[43, 47] ∨ al = #[45, 95]) (hsz : b.size ≤ 100000) :
   PureC w 3 150 [.bytes b t, .bytes al u] [] (fun _ => True) (fun _ _ v => ∃ t', v = .bytes (trBy (trTab #[43, 47] al) (byteArr (enc64 (KBw.bInts b)))) t') := by
  refine' enterP [(Str.ofString "s", .bytes b t), (Str.ofString "altchars", .bytes al u)] ?h1 ?h2 ?h3 ?h4 ?h5 ?_ ?c2 ?c3 ?c4 ?c5
  walk_at "enter"
  intro s p' loose' mg' mb' L' h' tk' pre' F' N' X' T' P' hP'
  have hs2 : al.size = 2 := by rcases hal with rfl | rfl <;> rfl
  clear hal
  k_steps
  exact hP' _ _ (Done.intro (by assumption) ⟨_, rfl⟩)

theorem kw_B64_3 : True := by
  (k_with "call ref" => ((with_reducible show wpAny _ _ (call (Value.ref 134) [Value.bytes _ _] _) _ _ _); (refine' PureC.use (a2b_spec _ _ _ _ _ ?z9 ?p9) ?kF ?kN ?kX ?kT ?lo trivial ?_; (case p9 => assumption); (case z9 => assumption); walk_at "pureuse"); (intro v9 h9 tk9 F9 N9 k9 o9; obtain ⟨t9, e9⟩ := o9; subst e9; clear k9; (try dsimp only))))
  (k_with "call ref" => ((with_reducible show wpAny _ _ (call (Value.ref 85) [Value.bytes _ _]) _ _ _); (refine' PureC.use (bytes_from_spec _ _ _) ?kF ?kN ?kX ?kT ?lo trivial ?_; walk_at "pureuse"); (intro v9 h9 tk9 F9 N9 k9 o9; subst o9; clear k9; (try dsimp only))))
  (k_with "getMethod str" => (refine gm_encode ?_))
  (k_with "call builtin:str.encode" => (refine call_encode_ascii (by assumption) (by assumption) ?_; intro t9 k9))
  trivial
theorem bytes_from_str_spec (w : World) (x : Str) (t : Tok) (hx : ∀ c ∈ x.cps.toList, c < 128) (hz : x.cps.size ≤ sizeLine) :
   PureC w 1 85 [.str x t] [] (fun _ => True) (fun _ _ v => ∃ t', v = .bytes (x.cps.map (·.toUInt8)) t') := by
  refine' enterP [(Str.ofString "s", .str x t)] ?h1 ?h2 ?h3 ?h4 ?h5 ?_ ?c2 ?c3 ?c4 ?c5
  walk_at "enter"
  intro s p' loose' mg' mb' L' h' tk' pre' F' N' X' T' P' hP'
  k_steps
  exact hP' _ _ (Done.intro (by assumption) ⟨_, rfl⟩)
theorem kw_B64_4 : True := by
  (k_with "call ref" => ((with_reducible show wpAny _ _ (call (Value.ref 85) [Value.str _ _]) _ _ _); (refine' PureC.use (bytes_from_str_spec _ _ _ ?z9 ?p9) ?kF ?kN ?kX ?kT ?lo trivial ?_; (case p9 => assumption); (case z9 => assumption); walk_at "pureuse"); (intro v9 h9 tk9 F9 N9 k9 o9; obtain ⟨t9, e9⟩ := o9; subst e9; clear k9; (try dsimp only))))
  (k_with "call builtin:bytes.translate" => (refine call_translate trTab_size (by assumption) ?_; intro t9 k9))
  trivial
theorem b64decode_spec (w : World) (x : Str) (t : Tok) (al : Array UInt8) (u : Tok) (cs : List Int) (p : Nat) (hal : al = #[43, 47] ∨ al = #[45, 95]) (hx : ∀ c ∈ x.cps.toList, c < 128) (hz : x.cps.size ≤ 100000)
   (hp : Padded (KBw.bInts (trBy (trTab al #[43, 47]) (x.cps.map (·.toUInt8)))) cs p) :
   PureC w 3 158 [.str x t, .bytes al u, .bool true] [] (fun _ => True) (fun _ _ v => ∃ t', v = .bytes (byteArr (cs.foldl decStep (0, 0, [])).2.2) t') := by
  refine' enterP [(Str.ofString "s", .str x t), (Str.ofString "altchars", .bytes al u), (Str.ofString "validate", .bool true)] ?h1 ?h2 ?h3 ?h4 ?h5 ?_ ?c2 ?c3 ?c4 ?c5
  walk_at "enter"
  intro s p' loose' mg' mb' L' h' tk' pre' F' N' X' T' P' hP'
  have hz1 : x.cps.size ≤ sizeLine := by rw [sizeLine_eq]; lia
  have hz2 : (x.cps.map (·.toUInt8)).size ≤ sizeLine := by rw [Array.size_map]; exact hz1
  have hz3 : (trBy (trTab al #[43, 47]) (x.cps.map (·.toUInt8))).size ≤ 100000 := by unfold trBy; rw [Array.size_map, Array.size_map]; exact hz
  have hs2 : al.size = 2 := by rcases hal with rfl | rfl <;> rfl
  clear hal
  k_steps
  exact hP' _ _ (Done.intro (by assumption) ⟨_, rfl⟩)
end Mine
end
section
open PySem PySem.W PySem.Spec PySem.Calls PyProof.Rows
set_option maxRecDepth 100000
namespace Mine
theorem sx_lt {j : Int} : sx j < 128 := by
  have all : ∀ k < 64, (B64L.getD k 0).toNat < 128 := by decide +kernel
  unfold sx
  by_cases h : j.toNat < 64
  · exact Int.ofNat_lt.mpr (all _ h)
  · have e : B64L.getD j.toNat 0 = 0 := by
      rw [List.getD_eq_getElem?_getD, List.getElem?_eq_none (by have : B64L.length = 64 := by decide
                                                                omega)]; rfl
    rw [e]; decide
def Sm (l : List Int) : Prop := ∀ x ∈ l, 0 ≤ x ∧ x < 128
theorem Sm.snoc {l : List Int} {j : Int} (h : Sm l) (hj : 0 ≤ j ∧ j < 128) : Sm (l ++ [j]) := by
  intro x hx
  rcases List.mem_append.mp hx with hx | hx
  · exact h x hx
  · rw [List.mem_singleton.mp hx]; exact hj
theorem sm_sx {j : Int} : 0 ≤ sx j ∧ sx j < 128 := ⟨sx_range.1, sx_lt⟩
theorem Sm.step {st : Int × Int × List Int} {c : Int} (h : Sm st.2.2) : Sm (encStep st c).2.2 := by
  unfold encStep
  split
  · exact h.snoc sm_sx
  · split
    · exact h.snoc sm_sx
    · exact (h.snoc sm_sx).snoc sm_sx
theorem Sm.fold : ∀ (ks : List Int) {st : Int × Int × List Int}, Sm st.2.2 → Sm (ks.foldl encStep st).2.2
  | [], _, h => h
  | c :: r, st, h => Sm.fold r (Sm.step (c := c) h)
theorem enc64_sm (ks : List Int) : Sm (enc64 ks) := by
  have h : Sm (ks.foldl encStep (0, 0, [])).2.2 := Sm.fold ks fun _ h => nomatch h
  unfold enc64 encFin
  split
  · exact ((h.snoc sm_sx).snoc (by decide)).snoc (by decide)
  · split
    · exact (h.snoc sm_sx).snoc (by decide)
    · exact h
def IsAl (al : Array UInt8) : Prop := al = #[43, 47] ∨ al = #[45, 95]
theorem trTab_get {p q a b d : UInt8} {n : Nat} (hn : n < 256) : (trTab #[p, q] #[a, b]).getD n d = if q.toNat = n then b else if p.toNat = n then a else n.toUInt8 := by
  rw [Array.getD_eq_getD_getElem?]
  show (((((Array.range 256).map (·.toUInt8)).setIfInBounds p.toNat a).setIfInBounds q.toNat b)[n]?).getD d = _
  rw [Array.getElem?_setIfInBounds, Array.getElem?_setIfInBounds]
  simp only [Array.size_setIfInBounds, Array.size_map, Array.size_range, Array.getElem?_map, Array.getElem?_range, hn]
  split
  · rename_i e
    rw [if_pos (e ▸ hn)]; rfl
  · split
    · rename_i e
      rw [if_pos (e ▸ hn)]; rfl
    · rfl
theorem trTab_lt {al : Array UInt8} (hal : IsAl al) : ∀ c : Nat, c < 128 → ∀ d : UInt8, ((trTab #[43, 47] al).getD c d).toNat < 128 := by
  have go : ∀ {p q a b : UInt8} (c : Nat), c < 128 → a.toNat < 128 → b.toNat < 128 → ∀ d : UInt8, ((trTab #[p, q] #[a, b]).getD c d).toNat < 128 := by
    intro p q a b c hc ha hb d
    rw [trTab_get (by lia)]
    split
    · exact hb
    · split
      · exact ha
      · have e : c.toUInt8.toNat = c % 256 := by simp [Nat.toUInt8]
        rw [e]; lia
  intro c hc d
  rcases hal with rfl | rfl
  · exact go c hc (by decide) (by decide) d
  · exact go c hc (by decide) (by decide) d
def encB (al b : Array UInt8) : Array UInt8 := trBy (trTab #[43, 47] al) (byteArr (enc64 (KBw.bInts b)))
def encT (al b : Array UInt8) : List Nat := (encB al b).toList.map (·.toNat)
theorem enc_ascii' {al b : Array UInt8} (hal : IsAl al) : ∀ c ∈ (encB al b).toList, c.toNat < 128 := by
  intro c hc
  unfold encB trBy at hc
  rw [Array.toList_map] at hc
  obtain ⟨d, hd, rfl⟩ := List.mem_map.mp hc
  refine trTab_lt hal _ ?_ _
  unfold byteArr at hd
  simp only [Array.toList_map, List.mem_map] at hd
  obtain ⟨x, hx, rfl⟩ := hd
  have := enc64_sm _ x (by simpa using hx)
  have e : x.toNat.toUInt8.toNat = x.toNat % 256 := by simp [Nat.toUInt8]
  first
    | (rw [e]; omega)
    | omega
theorem sOf_encT (al b : Array UInt8) : sOf (encT al b) = ⟨(encB al b).map (·.toNat)⟩ := by
  unfold sOf encT; rw [← Array.toList_map]
theorem encB_fits {al b : Array UInt8} (hb : b.size ≤ 100000) : (encB al b).size ≤ sizeLine := by
  unfold encB trBy
  rw [Array.size_map]
  exact enc_fits hb
end Mine
end
section
open PySem PySem.W PySem.Spec PySem.Calls PyProof.Rows
set_option maxRecDepth 100000
namespace Mine
theorem sOf_app (a b : List Nat) : sOf a ++ sOf b = sOf (a ++ b) := by
  show (⟨(sOf a).cps ++ (sOf b).cps⟩ : Str) = _
  unfold sOf; simp
theorem sOf_len (a : List Nat) : (sOf a).length = a.length := sOf_size a
theorem lit_q : Str.ofString "'" = sOf [39] := by decide +kernel
theorem lit_e : Str.ofString "=" = sOf [61] := by decide +kernel
theorem lit_n : Str.ofString "" = sOf [] := by decide +kernel
theorem lit_cs : Str.ofString ", " = sOf [44, 32] := by decide +kernel
theorem lit_c : Str.ofString "," = sOf [44] := by decide +kernel
theorem lit_p1 : Str.ofString "(" = sOf [40] := by decide +kernel
theorem lit_p2 : Str.ofString ")" = sOf [41] := by decide +kernel
theorem lit_b1 : Str.ofString "[" = sOf [91] := by decide +kernel
theorem lit_b2 : Str.ofString "]" = sOf [93] := by decide +kernel
theorem str_app_assoc (x y z : Str) : (x ++ y) ++ z = x ++ (y ++ z) := by
  show (⟨(x.cps ++ y.cps) ++ z.cps⟩ : Str) = ⟨x.cps ++ (y.cps ++ z.cps)⟩
  rw [Array.append_assoc]
inductive Strs : List Value → List (List Nat) → Prop
  | nil : Strs [] []
  | cons {c : List Nat} {t : Tok} {vs : List Value} {cs : List (List Nat)} (h : Strs vs cs) : Strs (.str (sOf c) t :: vs) (c :: cs)
theorem Strs.snoc {vs : List Value} {cs : List (List Nat)} {c : List Nat} {t : Tok} (h : Strs vs cs) : Strs (vs ++ [.str (sOf c) t]) (cs ++ [c]) := by
  induction h with
  | nil => exact .cons .nil
  | cons _ ih => exact .cons ih
theorem Strs.vals {vs : List Value} {cs : List (List Nat)} (h : Strs vs cs) : ∃ l, vs = strValues l ∧ l.map (·.1) = cs.map sOf := by
  induction h with
  | nil => exact ⟨[], rfl, rfl⟩
  | cons _ ih =>
    obtain ⟨l, rfl, e⟩ := ih
    exact ⟨(_, _) :: l, rfl, by rw [List.map_cons, e]; rfl⟩
theorem Strs.length {vs : List Value} {cs : List (List Nat)} (h : Strs vs cs) : vs.length = cs.length := by
  induction h with
  | nil => rfl
  | cons _ ih => simp [ih]
theorem join_nil : ∀ cs : List (List Nat), Str.join (sOf []) (cs.map sOf) = sOf cs.flatten
  | [] => by simp [Str.join]; rfl
  | [x] => by simp [Str.join]
  | x :: y :: r => by
    have ih := join_nil (y :: r)
    simp only [List.map_cons, List.flatten_cons] at ih ⊢
    rw [Str.join, ih, sOf_app, sOf_app]
    · simp
    · intro h; cases h
theorem join_cs : ∀ cs : List (List Nat), Str.join (sOf [44, 32]) (cs.map sOf) = sOf (joinT cs)
  | [] => by simp [Str.join, joinT]; rfl
  | [x] => by simp [Str.join, joinT]
  | x :: y :: r => by
    have ih := join_cs (y :: r)
    simp only [List.map_cons] at ih ⊢
    rw [Str.join, ih, sOf_app, sOf_app, joinT]
    · simp
    · intro h; cases h
section
variable {w : World} {A : Around} {E : Value → Shared → Prop} {s : Shared} {h₀ : Heap} {L : Addr} {m : Str → Option Value} {news : List (Addr × Obj)}
theorem join_strs {D : Addr} {vs : List Value} {cs : List (List Nat)} {sp : List Nat} {sep : Str} {t : Tok} {Q : Value → Shared → Prop} (N : News h₀ L s.heap news) (hm : (D, LCg.lst vs) ∈ news) (hc : Strs vs cs) (hs : sep = sOf sp) (hsl : sp.length ≤ 2) (hz : (cs.map List.length).sum + cs.length * 2 ≤ 1000000)
    (h : ∀ t' k, Q (.str (Str.join (sOf sp) (cs.map sOf)) t') { s with toks := k }) :
    wpAny (model prg w) A (call (.builtin "str.join") [.str sep t, .ref D]) Q E s := by
  subst hs
  obtain ⟨l, rfl, e⟩ := Strs.vals hc
  refine SC.join (l := l) ⟨_, (N _ hm).1, rfl, _, rfl⟩ e (joinOk_of ?_) (by rw [show Txt.join (sOf sp) (cs.map sOf) = Builtin.Str.glued (sOf sp) (cs.map sOf) from rfl, StrLaws.glued_eq_join]; exact h)
  have e1 : (cs.map sOf).map (·.length) = cs.map List.length := by
    rw [List.map_map]; exact List.map_congr_left fun x _ => sOf_len x
  rw [e1, List.length_map, sOf_len]
  have : cs.length * sp.length ≤ cs.length * 2 := Nat.mul_le_mul_left _ hsl
  lia
theorem add_gen {x y : Str} {a b : List Nat} {t u : Tok} {Q : Value → Shared → Prop} (hx : x = sOf a) (hy : y = sOf b) (hl : a.length + b.length ≤ 1000000) (h : ∀ t' tk, Q (.str (sOf (a ++ b)) t') { s with toks := tk }) :
    wpAny (model prg w) A (binaryOp .Add (.str x t) (.str y u)) Q E s := by
  subst hx; subst hy
  refine PyProof.Rows.add_str (by rw [sOf_app]; exact h) ?_
  rw [sOf_len, sOf_len, sizeLine_eq]; lia
theorem mul_eq {z : Int} {t u : Tok} {Q : Value → Shared → Prop} (h0 : 0 ≤ z) (h3 : z ≤ 3) (h : ∀ t' tk, Q (.str (sOf (List.replicate z.toNat 61)) t') { s with toks := tk }) :
    wpAny (model prg w) A (binaryOp .Mult (.str (Str.ofString "=") t) (.int z u)) Q E s := by
  have e : Txt.mul (Str.ofString "=") z = sOf (List.replicate z.toNat 61) := by
    rw [lit_e]
    have := mul_one_list 61 z
    show Txt.mul ⟨#[61]⟩ z = _
    unfold sOf
    rw [← this]
  refine SB.mul ?_ (by rw [e]; exact h)
  have hz : z = 0 ∨ z = 1 ∨ z = 2 ∨ z = 3 := by lia
  rw [lit_e]
  rcases hz with rfl | rfl | rfl | rfl <;> exact ⟨by decide, by decide, by decide⟩
end
end Mine
end
section
open PySem PySem.W PySem.Spec PySem.Calls PyProof.Rows
set_option maxRecDepth 100000
namespace Mine
/-- octets in sixes -/
noncomputable def six : List Int → List Int
  | a :: b :: c :: r => a / 4 :: (a % 4 * 16 + b / 16) :: (b % 16 * 4 + c / 64) :: (c % 64) :: six r
  | [a, b] => [a / 4, a % 4 * 16 + b / 16, b % 16 * 4]
  | [a] => [a / 4, a % 4 * 16]
  | [] => []
noncomputable def padN : List Int → Nat
  | _ :: _ :: _ :: r => padN r
  | [_, _] => 1
  | [_] => 2
  | [] => 0
theorem by3 {P : List Int → Prop} (h0 : P []) (h1 : ∀ a, P [a]) (h2 : ∀ a b, P [a, b]) (h3 : ∀ a b c r, P r → P (a :: b :: c :: r)) : ∀ l, P l
  | [] => h0
  | [a] => h1 a
  | [a, b] => h2 a b
  | a :: b :: c :: r => h3 a b c r (by3 h0 h1 h2 h3 r)
def Oct (ks : List Int) : Prop := ∀ k ∈ ks, 0 ≤ k ∧ k < 256
theorem Oct.hd {a : Int} {r : List Int} (h : Oct (a :: r)) : (0 ≤ a ∧ a < 256) ∧ Oct r := ⟨h a (.head _), fun k hk => h k (.tail _ hk)⟩
theorem six_len (ks : List Int) : 6 * (six ks).length = 8 * ks.length + 2 * padN ks ∧ (((six ks).length % 4 = 0 ∧ padN ks = 0) ∨ ((six ks).length % 4 = 2 ∧ padN ks = 2) ∨ ((six ks).length % 4 = 3 ∧ padN ks = 1)) := by
  refine by3 (P := fun ks => 6 * (six ks).length = 8 * ks.length + 2 * padN ks ∧ (((six ks).length % 4 = 0 ∧ padN ks = 0) ∨ ((six ks).length % 4 = 2 ∧ padN ks = 2) ∨ ((six ks).length % 4 = 3 ∧ padN ks = 1))) ?_ ?_ ?_ ?_ ks
  · exact ⟨rfl, .inl ⟨rfl, rfl⟩⟩
  · exact fun a => ⟨rfl, .inr (.inl ⟨rfl, rfl⟩)⟩
  · exact fun a b => ⟨rfl, .inr (.inr ⟨rfl, rfl⟩)⟩
  · intro a b c r ih
    refine ⟨?_, ?_⟩
    · have := ih.1
      simp only [six, padN, List.length_cons]
      lia
    · show ((six r).length + 4) % 4 = 0 ∧ padN r = 0 ∨ ((six r).length + 4) % 4 = 2 ∧ padN r = 2 ∨ ((six r).length + 4) % 4 = 3 ∧ padN r = 1
      rw [Nat.add_mod_right]
      exact ih.2
theorem r1 {a : Int} (h : 0 ≤ a ∧ a < 256) : 0 ≤ a / 4 ∧ a / 4 < 64 := by lia
theorem r2 {a b : Int} (h : 0 ≤ b ∧ b < 256) : 0 ≤ a % 4 * 16 + b / 16 ∧ a % 4 * 16 + b / 16 < 64 := by lia
theorem r3 {b c : Int} (h : 0 ≤ c ∧ c < 256) : 0 ≤ b % 16 * 4 + c / 64 ∧ b % 16 * 4 + c / 64 < 64 := by lia
theorem r4 {c : Int} : 0 ≤ c % 64 ∧ c % 64 < 64 := by lia
theorem r5 {a : Int} : 0 ≤ a % 4 * 16 ∧ a % 4 * 16 < 64 := by lia
theorem r6 {b : Int} : 0 ≤ b % 16 * 4 ∧ b % 16 * 4 < 64 := by lia
theorem six_ran {ks : List Int} : Oct ks → ∀ j ∈ six ks, 0 ≤ j ∧ j < 64 := by
  refine by3 (P := fun ks => Oct ks → ∀ j ∈ six ks, 0 ≤ j ∧ j < 64) ?_ ?_ ?_ ?_ ks
  · intro _ j hj; cases hj
  · intro a h
    exact List.forall_mem_cons.mpr ⟨r1 h.hd.1, List.forall_mem_cons.mpr ⟨r5, fun _ h => nomatch h⟩⟩
  · intro a b h
    exact List.forall_mem_cons.mpr ⟨r1 h.hd.1, List.forall_mem_cons.mpr ⟨r2 h.hd.2.hd.1, List.forall_mem_cons.mpr ⟨r6, fun _ h => nomatch h⟩⟩⟩
  · intro a b c r ih h
    exact List.forall_mem_cons.mpr ⟨r1 h.hd.1, List.forall_mem_cons.mpr ⟨r2 h.hd.2.hd.1, List.forall_mem_cons.mpr ⟨r3 h.hd.2.hd.2.hd.1, List.forall_mem_cons.mpr ⟨r4, ih h.hd.2.hd.2.hd.2⟩⟩⟩⟩
theorem enc0 {l a : Int} {out : List Int} (ha : 0 ≤ a ∧ a < 256) : ∃ l', l' % 256 = a ∧ encStep (0, l, out) a = (2, l', out ++ [sx (a / 4)]) := by
  refine ⟨(l * 256 + a) % 65536, by lia, ?_⟩
  have e : (l * 256 + a) % 65536 / 4 % 64 = a / 4 := by lia
  unfold encStep
  rw [if_pos rfl, e]
theorem enc1 {l a b : Int} {out : List Int} (hl : l % 256 = a) (hb : 0 ≤ b ∧ b < 256) : ∃ l', l' % 256 = b ∧ encStep (2, l, out) b = (4, l', out ++ [sx (a % 4 * 16 + b / 16)]) := by
  refine ⟨(l * 256 + b) % 65536, by lia, ?_⟩
  have e : (l * 256 + b) % 65536 / 16 % 64 = a % 4 * 16 + b / 16 := by lia
  unfold encStep
  rw [if_neg (show ¬ ((2 : Int) = 0) by decide), if_pos rfl, e]
theorem enc2 {l b c : Int} {out : List Int} (hl : l % 256 = b) (hc : 0 ≤ c ∧ c < 256) : ∃ l', encStep (4, l, out) c = (0, l', out ++ [sx (b % 16 * 4 + c / 64)] ++ [sx (c % 64)]) := by
  refine ⟨(l * 256 + c) % 65536, ?_⟩
  have e : (l * 256 + c) % 65536 / 64 % 64 = b % 16 * 4 + c / 64 := by lia
  have e2 : (l * 256 + c) % 65536 % 64 = c % 64 := by lia
  unfold encStep
  rw [if_neg (show ¬ ((4 : Int) = 0) by decide), if_neg (show ¬ ((4 : Int) = 2) by decide), e, e2]
theorem enc_six {ks : List Int} : Oct ks → ∀ (l : Int) (out : List Int), encFin (ks.foldl encStep (0, l, out)) = out ++ ((six ks).map sx ++ List.replicate (padN ks) 61) := by
  refine by3 (P := fun ks => Oct ks → ∀ (l : Int) (out : List Int), encFin (ks.foldl encStep (0, l, out)) = out ++ ((six ks).map sx ++ List.replicate (padN ks) 61)) ?_ ?_ ?_ ?_ ks
  · intro _ l out
    rw [List.foldl_nil, encFin, if_neg (show ¬ ((0 : Int) = 2) by decide), if_neg (show ¬ ((0 : Int) = 4) by decide)]
    simp [six, padN]
  · intro a h l out
    obtain ⟨l1, h1, e1⟩ := enc0 (l := l) (out := out) h.hd.1
    have e : l1 % 4 = a % 4 := by lia
    rw [List.foldl_cons, e1, List.foldl_nil, encFin, if_pos rfl, e]
    simp [six, padN, List.replicate]
  · intro a b h l out
    obtain ⟨l1, h1, e1⟩ := enc0 (l := l) (out := out) h.hd.1
    obtain ⟨l2, h2, e2⟩ := enc1 (out := out ++ [sx (a / 4)]) h1 h.hd.2.hd.1
    have e : l2 % 16 = b % 16 := by lia
    rw [List.foldl_cons, e1, List.foldl_cons, e2, List.foldl_nil, encFin, if_neg (show ¬ ((4 : Int) = 2) by decide), if_pos rfl, e]
    simp [six, padN, List.replicate]
  · intro a b c r ih h l out
    obtain ⟨l1, h1, e1⟩ := enc0 (l := l) (out := out) h.hd.1
    obtain ⟨l2, h2, e2⟩ := enc1 (out := out ++ [sx (a / 4)]) h1 h.hd.2.hd.1
    obtain ⟨l3, e3⟩ := enc2 (out := out ++ [sx (a / 4)] ++ [sx (a % 4 * 16 + b / 16)]) h2 h.hd.2.hd.2.hd.1
    rw [List.foldl_cons, e1, List.foldl_cons, e2, List.foldl_cons, e3, ih h.hd.2.hd.2.hd.2]
    simp [six, padN]
theorem enc64_six {ks : List Int} (h : Oct ks) : enc64 ks = (six ks).map sx ++ List.replicate (padN ks) 61 := by
  unfold enc64
  rw [enc_six h, List.nil_append]
theorem b64v_sx {j : Int} (h0 : 0 ≤ j) (h1 : j < 64) : b64v (sx j) = j := by
  have k : ∀ k < 64, b64v (sx ((k : Nat) : Int)) = ((k : Nat) : Int) := by decide +kernel
  have e : ((j.toNat : Nat) : Int) = j := by lia
  have := k j.toNat (by lia)
  rwa [e] at this
theorem dec0 {l j : Int} {out : List Int} (h : 0 ≤ j ∧ j < 64) : decStep (0, l, out) (sx j) = (1, j, out) := by
  unfold decStep
  rw [if_pos rfl, b64v_sx h.1 h.2]
theorem dec1 {l j a : Int} {out : List Int} (h : 0 ≤ j ∧ j < 64) (e : l * 4 + j / 16 = a) : decStep (1, l, out) (sx j) = (2, j % 16, out ++ [a]) := by
  unfold decStep
  rw [if_neg (show ¬ ((1 : Int) = 0) by decide), if_pos rfl, b64v_sx h.1 h.2, ← e]
theorem dec2 {l j a : Int} {out : List Int} (h : 0 ≤ j ∧ j < 64) (e : l * 16 + j / 4 = a) : decStep (2, l, out) (sx j) = (3, j % 4, out ++ [a]) := by
  unfold decStep
  rw [if_neg (show ¬ ((2 : Int) = 0) by decide), if_neg (show ¬ ((2 : Int) = 1) by decide), if_pos rfl, b64v_sx h.1 h.2, ← e]
theorem dec3 {l j a : Int} {out : List Int} (h : 0 ≤ j ∧ j < 64) (e : l * 64 + j = a) : decStep (3, l, out) (sx j) = (0, 0, out ++ [a]) := by
  unfold decStep
  rw [if_neg (show ¬ ((3 : Int) = 0) by decide), if_neg (show ¬ ((3 : Int) = 1) by decide), if_neg (show ¬ ((3 : Int) = 2) by decide), b64v_sx h.1 h.2, ← e]
theorem v1 {a b : Int} (h : 0 ≤ b ∧ b < 256) : a / 4 * 4 + (a % 4 * 16 + b / 16) / 16 = a := by lia
theorem v1' {a : Int} : a / 4 * 4 + a % 4 * 16 / 16 = a := by lia
theorem v2 {a b c : Int} (h : 0 ≤ c ∧ c < 256) (hb : 0 ≤ b ∧ b < 256) : (a % 4 * 16 + b / 16) % 16 * 16 + (b % 16 * 4 + c / 64) / 4 = b := by lia
theorem v2' {a b : Int} (hb : 0 ≤ b ∧ b < 256) : (a % 4 * 16 + b / 16) % 16 * 16 + b % 16 * 4 / 4 = b := by lia
theorem v3 {b c : Int} (h : 0 ≤ c ∧ c < 256) : (b % 16 * 4 + c / 64) % 4 * 64 + c % 64 = c := by lia
theorem dec_six {ks : List Int} : Oct ks → ∀ out : List Int, (((six ks).map sx).foldl decStep (0, 0, out)).2.2 = out ++ ks := by
  refine by3 (P := fun ks => Oct ks → ∀ out : List Int, (((six ks).map sx).foldl decStep (0, 0, out)).2.2 = out ++ ks) ?_ ?_ ?_ ?_ ks
  · intro _ out; exact (List.append_nil _).symm
  · intro a h out
    show (decStep (decStep (0, 0, out) (sx (a / 4))) (sx (a % 4 * 16))).2.2 = _
    rw [dec0 (r1 h.hd.1), dec1 r5 v1']
  · intro a b h out
    show (decStep (decStep (decStep (0, 0, out) (sx (a / 4))) (sx (a % 4 * 16 + b / 16))) (sx (b % 16 * 4))).2.2 = _
    rw [dec0 (r1 h.hd.1), dec1 (r2 h.hd.2.hd.1) (v1 h.hd.2.hd.1), dec2 r6 (v2' h.hd.2.hd.1), List.append_assoc]; rfl
  · intro a b c r ih h out
    show (((six r).map sx).foldl decStep (decStep (decStep (decStep (decStep (0, 0, out) (sx (a / 4))) (sx (a % 4 * 16 + b / 16))) (sx (b % 16 * 4 + c / 64))) (sx (c % 64)))).2.2 = _
    rw [dec0 (r1 h.hd.1), dec1 (r2 h.hd.2.hd.1) (v1 h.hd.2.hd.1), dec2 (r3 h.hd.2.hd.2.hd.1) (v2 h.hd.2.hd.2.hd.1 h.hd.2.hd.1), dec3 r4 (v3 h.hd.2.hd.2.hd.1), ih h.hd.2.hd.2.hd.2, List.append_assoc, List.append_assoc, List.append_assoc]; rfl
theorem six_pad (ks : List Int) : ((six ks).length + padN ks) % 4 = 0 ∧ padN ks ≤ 2 := by
  rcases (six_len ks).2 with ⟨h, e⟩ | ⟨h, e⟩ | ⟨h, e⟩ <;> rw [e] <;> exact ⟨by rw [Nat.add_mod, h], by decide⟩
/-- the number that the sixes tell -/
theorem hor_six {ks : List Int} : Oct ks → ∀ H : Int, (six ks).foldl (fun n j => n * 64 + j) H = ks.foldl (fun n c => n * 256 + c) H * 2 ^ (2 * padN ks) := by
  refine by3 (P := fun ks => Oct ks → ∀ H : Int, (six ks).foldl (fun n j => n * 64 + j) H = ks.foldl (fun n c => n * 256 + c) H * 2 ^ (2 * padN ks)) ?_ ?_ ?_ ?_ ks
  · intro _ H; simp [six, padN]
  · intro a h H
    simp only [six, padN, List.foldl_cons, List.foldl_nil, Int.reducePow, Nat.reduceMul]
    lia
  · intro a b h H
    simp only [six, padN, List.foldl_cons, List.foldl_nil, Int.reducePow, Nat.reduceMul]
    lia
  · intro a b c r ih h H
    simp only [six, padN, List.foldl_cons]
    rw [ih h.hd.2.hd.2.hd.2]
    have e : (((H * 64 + a / 4) * 64 + (a % 4 * 16 + b / 16)) * 64 + (b % 16 * 4 + c / 64)) * 64 + c % 64 = ((H * 256 + a) * 256 + b) * 256 + c := by lia
    rw [e]
theorem hor_digit : ∀ (n : Nat) (js : List Int) (k : Nat), js.length = n → (∀ j ∈ js, 0 ≤ j ∧ j < 64) → k < n → js.foldl (fun n j => n * 64 + j) 0 / 64 ^ (n - 1 - k) % 64 = js.getD k 0
  | 0, _, k, _, _, hk => absurd hk (Nat.not_lt_zero _)
  | n + 1, js, k, hl, hr, hk => by
    have hne : js ≠ [] := by intro e; rw [e] at hl; cases hl
    obtain ⟨pre, j, rfl⟩ : ∃ pre j, js = pre ++ [j] := ⟨js.dropLast, js.getLast hne, (List.dropLast_concat_getLast hne).symm⟩
    have hl' : pre.length = n := by simpa using hl
    have hj := hr j (by simp)
    rw [List.foldl_append]
    simp only [List.foldl_cons, List.foldl_nil]
    by_cases h : k = n
    · subst h
      have e1 : (pre ++ [j]).getD k 0 = j := by
        rw [List.getD_eq_getElem?_getD, List.getElem?_append_right (by lia), hl', Nat.sub_self]; rfl
      rw [e1, show k + 1 - 1 - k = 0 by lia, Int.pow_zero, Int.ediv_one]
      lia
    · have ih := hor_digit n pre k hl' (fun x hx => hr x (List.mem_append.mpr (.inl hx))) (by lia)
      have e1 : (pre ++ [j]).getD k 0 = pre.getD k 0 := by
        rw [List.getD_eq_getElem?_getD, List.getElem?_append_left (by lia), ← List.getD_eq_getElem?_getD]
      obtain ⟨m, hm⟩ : ∃ m, n - 1 - k = m := ⟨_, rfl⟩
      rw [hm] at ih
      rw [e1, ← ih, show n + 1 - 1 - k = m + 1 by lia, Int.pow_succ, Int.mul_comm (64 ^ m) 64, ← Int.ediv_ediv_of_nonneg (y := 64) (by decide)]
      have e2 : (List.foldl (fun n j => n * 64 + j) 0 pre * 64 + j) / 64 = List.foldl (fun n j => n * 64 + j) 0 pre := by lia
      rw [e2]
end Mine
end
section
open PySem PySem.W PySem.Spec PySem.Calls PyProof.Rows
set_option maxRecDepth 100000
namespace Mine
def numB (ks : List Int) : Int := ks.foldl (fun n c => n * 256 + c) 0
def alphS (sg : Str) : Str := Str.ofString "ABCDEFGHIJKLMNOPQRSTUVWXYZabcdefghijklmnopqrstuvwxyz0123456789" ++ sg
def alC (sg : Str) (j : Int) : Nat := (alphS sg).cps.getD j.toNat 0
def figC (sg : Str) (b : Array UInt8) (k : Nat) : Nat := alC sg (((numB ((KBw.bInts b).take b.size) * 2 ^ (6 * ((8 * (b.size : Int) + 5) / 6) - 8 * (b.size : Int)).toNat).fdiv (64 ^ ((8 * (b.size : Int) + 5) / 6 - 1 - (0 + (k : Int))).toNat)).fmod 64)
def Pr (al : Array UInt8) (sg : Str) : Prop := (al = #[43, 47] ∧ sg = Str.ofString "+/") ∨ (al = #[45, 95] ∧ sg = Str.ofString "-_")
def trC (al : Array UInt8) (x : Int) : Nat := ((trTab #[43, 47] al).getD x.toNat.toUInt8.toNat x.toNat.toUInt8).toNat
theorem encT_eq (al b : Array UInt8) : encT al b = (enc64 (KBw.bInts b)).map (trC al) := by
  unfold encT encB trBy byteArr trC
  simp
/-- the two figures' table at one figure -/
def trQ (p q a b : UInt8) (n : Nat) : Nat := (if q.toNat = n then b else if p.toNat = n then a else n.toUInt8).toNat
theorem trQ_eq {p q a b : UInt8} {n : Nat} : ((trTab #[p, q] #[a, b]).getD n.toUInt8.toNat n.toUInt8).toNat = trQ p q a b n.toUInt8.toNat := by
  rw [trTab_get n.toUInt8.toNat_lt]; rfl
theorem trC_sx {al : Array UInt8} {sg : Str} (h : Pr al sg) {j : Int} (h0 : 0 ≤ j) (h1 : j < 64) : trC al (sx j) = alC sg j := by
  have k1 : ∀ k < 64, trQ 43 47 43 47 (sx ((k : Nat) : Int)).toNat.toUInt8.toNat = alC (Str.ofString "+/") ((k : Nat) : Int) := by decide +kernel
  have k2 : ∀ k < 64, trQ 43 47 45 95 (sx ((k : Nat) : Int)).toNat.toUInt8.toNat = alC (Str.ofString "-_") ((k : Nat) : Int) := by decide +kernel
  have e : ((j.toNat : Nat) : Int) = j := by lia
  unfold trC
  rcases h with ⟨rfl, rfl⟩ | ⟨rfl, rfl⟩
  · have := k1 j.toNat (by lia); rw [trQ_eq]; rwa [e] at this
  · have := k2 j.toNat (by lia); rw [trQ_eq]; rwa [e] at this
theorem trC_61 {al : Array UInt8} {sg : Str} (h : Pr al sg) : trC al 61 = 61 := by
  unfold trC
  rcases h with ⟨rfl, rfl⟩ | ⟨rfl, rfl⟩ <;> (rw [trQ_eq]; decide +kernel)
theorem flat_one {α β : Type} (g : α → β) : ∀ l : List α, (l.map fun x => [g x]).flatten = l.map g
  | [] => rfl
  | a :: l => by rw [List.map_cons, List.flatten_cons, flat_one g l]; rfl
theorem range_getD (f : Int → Nat) (js : List Int) : (List.range js.length).map (fun k => f (js.getD k 0)) = js.map f := by
  refine List.ext_getElem (by simp) fun i h1 h2 => ?_
  have hi : i < js.length := by simpa using h1
  simp [hi]
theorem fig_six {sg : Str} {b : Array UInt8} {k : Nat} (hk : k < (six (KBw.bInts b)).length) : figC sg b k = alC sg ((six (KBw.bInts b)).getD k 0) := by
  have ho : Oct (KBw.bInts b) := fun c hc => KBw.ints_in hc
  have hn := KBw.ints_length b
  have l1 := (six_len (KBw.bInts b)).1
  have l2 := (six_pad (KBw.bInts b)).2
  unfold figC
  rw [show (KBw.bInts b).take b.size = KBw.bInts b by rw [← hn, List.take_length]]
  rw [show (6 * ((8 * (b.size : Int) + 5) / 6) - 8 * (b.size : Int)).toNat = 2 * padN (KBw.bInts b) by lia]
  rw [show ((8 * (b.size : Int) + 5) / 6 - 1 - (0 + (k : Int))).toNat = (six (KBw.bInts b)).length - 1 - k by lia]
  rw [Int.fmod_eq_emod_of_nonneg _ (by decide), Int.fdiv_eq_ediv_of_nonneg _ (Int.pow_nonneg (by decide))]
  rw [show numB (KBw.bInts b) * 2 ^ (2 * padN (KBw.bInts b)) = (six (KBw.bInts b)).foldl (fun n j => n * 64 + j) 0 from (hor_six ho 0).symm]
  rw [hor_digit _ (six (KBw.bInts b)) k rfl (six_ran ho) hk]
theorem told_leaf {al : Array UInt8} {sg : Str} (hp : Pr al sg) {b : Array UInt8} (_ : b.size ≤ 5) : ((List.range ((8 * b.size + 5) / 6)).map fun (k : Nat) => [figC sg b k]).flatten ++ List.replicate ((-((8 * (b.size : Int) + 5) / 6)).fmod 4).toNat 61 = encT al b := by
  have ho : Oct (KBw.bInts b) := fun c hc => KBw.ints_in hc
  have hn := KBw.ints_length b
  have l1 := (six_len (KBw.bInts b)).1
  obtain ⟨l3, l2⟩ := six_pad (KBw.bInts b)
  rw [show (8 * b.size + 5) / 6 = (six (KBw.bInts b)).length by lia, flat_one, List.map_congr_left fun k hk => fig_six (sg := sg) (List.mem_range.mp hk), range_getD, encT_eq, enc64_six ho, List.map_append, List.map_map, List.map_replicate, trC_61 hp]
  have hd : (8 * (b.size : Int) + 5) / 6 = ((six (KBw.bInts b)).length : Int) := by clear l3; lia
  rw [show ((-((8 * (b.size : Int) + 5) / 6)).fmod 4).toNat = padN (KBw.bInts b) by rw [hd, Int.fmod_eq_emod_of_nonneg _ (by decide)]; clear l1 hd hn; lia]
  congr 1
  exact List.map_congr_left fun j hj => (trC_sx hp (six_ran ho j hj).1 (six_ran ho j hj).2).symm
end Mine
end
section
open PySem PySem.W PySem.Spec PySem.Calls PyProof.Rows
set_option maxRecDepth 100000
namespace Mine
theorem encT_len {al b : Array UInt8} (hb : b.size ≤ 5) : (encT al b).length ≤ 13 := by
  rw [encT_eq, List.length_map]
  have := enc64_len (KBw.bInts b)
  rw [KBw.ints_length] at this
  lia
theorem joinT_len : ∀ xs : List (List Nat), (joinT xs).length ≤ (xs.map List.length).sum + xs.length * 2
  | [] => by simp [joinT]
  | [x] => by simp [joinT]
  | x :: y :: r => by
    have := joinT_len (y :: r)
    simp only [joinT, List.length_append, List.length_cons, List.map_cons, List.sum_cons] at this ⊢
    lia
theorem bracT_len (d : Nat) (xs : List (List Nat)) : (bracT d xs).length ≤ (joinT xs).length + 3 := by
  unfold bracT
  split
  · simp only [List.length_cons, List.length_append]
    split <;> simp <;> lia
  · simp only [List.length_cons, List.length_append, List.length_nil]; lia
theorem tol_len {al : Array UInt8} : ∀ (n : Nat) (t : Tr) (d : Nat), Le n t → (tolT (encT al) d t).length + 2 ≤ 20 * wt t := by
  intro n
  induction n with
  | zero =>
    intro t d h
    cases t with
    | node ts => exact h.elim
    | leaf b =>
      have := encT_len (al := al) (b := b) h
      rw [tolT, wt]; simp only [List.length_cons, List.length_append, List.length_nil]; lia
  | succ n ih =>
    intro t d h
    cases t with
    | leaf b =>
      have := encT_len (al := al) (b := b) h
      rw [tolT, wt]; simp only [List.length_cons, List.length_append, List.length_nil]; lia
    | node ts =>
      have key : ∀ ts : List Tr, (∀ t ∈ ts, Le n t) → ((ts.map (tolT (encT al) (d + 1))).map List.length).sum + ts.length * 2 ≤ 20 * wts ts := by
        intro ts
        induction ts with
        | nil => intro _; simp
        | cons t ts iht =>
          intro ht
          have a := ih t (d + 1) (ht t (.head _))
          have b := iht fun x hx => ht x (.tail _ hx)
          simp only [List.map_cons, List.sum_cons, List.length_cons, wts]
          lia
      have k := key ts h
      have j := joinT_len (ts.map (tolT (encT al) (d + 1)))
      have b := bracT_len d (ts.map (tolT (encT al) (d + 1)))
      rw [tolT, tolTs_eq, wt]
      rw [List.length_map] at j
      lia
theorem tols_sum {al : Array UInt8} {d : Nat} {ts : List Tr} (n : Nat) (h : ∀ t ∈ ts, Le n t) : ((ts.map (tolT (encT al) d)).map List.length).sum + (ts.map (tolT (encT al) d)).length * 2 ≤ 20 * wts ts := by
  induction ts with
  | nil => simp
  | cons t ts iht =>
    have a := tol_len (al := al) n t d (h t (.head _))
    have b := iht fun x hx => h x (.tail _ hx)
    simp only [List.map_cons, List.sum_cons, List.length_cons, wts] at b ⊢
    lia
theorem AtD.seq {h : Heap} {v : Value} {d : Nat} {ds : List Dat} (pre' : AtD h v (seqD d ds)) : ∃ (ax : Addr) (vs : List Value) (n : Nat) (nw : List (Addr × Obj)), v = .ref ax ∧ (∀ p ∈ nw, h.get? p.1 = some p.2) ∧ DatAll nw vs ds ∧ ((d % 2 = 1 ∧ h.get? ax = some { cls := .type "tuple", data := .seq vs.toArray n }) ∨ (¬ d % 2 = 1 ∧ h.get? ax = some (W.listOf vs.toArray n))) := by
  unfold seqD at pre'
  split at pre'
  · rename_i hd
    obtain ⟨ax, vs, nn, nw, rfl, hget, hnw, hall⟩ := AtD.tuple pre'
    exact ⟨ax, vs, nn, nw, rfl, hnw, hall, .inl ⟨hd, hget⟩⟩
  · rename_i hd
    obtain ⟨ax, vs, nn, nw, rfl, hget, hnw, hall⟩ := AtD.list pre'
    exact ⟨ax, vs, nn, nw, rfl, hnw, hall, .inr ⟨hd, hget⟩⟩
end Mine
end
section
open PySem PySem.W PySem.Spec PySem.Calls PyProof.Rows
set_option maxRecDepth 100000
namespace Mine
theorem encT_all {P : Nat → Bool} (h1 : P 61 = true) (h2 : ∀ k < 64, P (alC (Str.ofString "+/") ((k : Nat) : Int)) = true) (h3 : ∀ k < 64, P (alC (Str.ofString "-_") ((k : Nat) : Int)) = true) {al : Array UInt8} {sg : Str} (hp : Pr al sg) {b : Array UInt8} (hb : b.size ≤ 5) :
    ∀ c ∈ encT al b, P c = true := by
  intro c hc
  rw [← told_leaf hp hb] at hc
  rcases List.mem_append.mp hc with hc | hc
  · obtain ⟨l, hl, hcl⟩ := List.mem_flatten.mp hc
    obtain ⟨k, _, rfl⟩ := List.mem_map.mp hl
    rw [List.mem_singleton] at hcl
    subst hcl
    have key : ∀ j : Int, 0 ≤ j → j < 64 → P (alC sg j) = true := by
      intro j j0 j1
      have e : ((j.toNat : Nat) : Int) = j := by omega
      rcases hp with ⟨_, rfl⟩ | ⟨_, rfl⟩
      · have := h2 j.toNat (by omega); rwa [e] at this
      · have := h3 j.toNat (by omega); rwa [e] at this
    unfold figC
    refine key _ ?_ ?_
    · rw [Int.fmod_eq_emod_of_nonneg _ (by decide)]; omega
    · rw [Int.fmod_eq_emod_of_nonneg _ (by decide)]; omega
  · rw [(List.mem_replicate.mp hc).2]; exact h1
def plainC (c : Nat) : Bool := decide (Builtin.Str.reprChar 39 c = [c]) && c != 39
theorem encT_plain {al : Array UInt8} {sg : Str} (hp : Pr al sg) {b : Array UInt8} (hb : b.size ≤ 5) : ∀ c ∈ encT al b, plainC c = true :=
  encT_all (by decide +kernel) (by decide +kernel) (by decide +kernel) hp hb
theorem foldl_plain : ∀ (l : List Nat) (acc : Array Nat), (∀ c ∈ l, plainC c = true) → l.foldl (fun out c => out ++ (Builtin.Str.reprChar 39 c).toArray) acc = acc ++ l.toArray
  | [], acc, _ => by simp
  | c :: r, acc, h => by
    have hc := h c (.head _)
    unfold plainC at hc
    rw [Bool.and_eq_true, decide_eq_true_eq] at hc
    rw [List.foldl_cons, hc.1, foldl_plain r _ fun x hx => h x (.tail _ hx)]
    simp
theorem repr_plain {l : List Nat} (h : ∀ c ∈ l, plainC c = true) : reprText (sOf l) = sOf (39 :: (l ++ [39])) := by
  have hn : (sOf l).cps.contains 39 = false := by
    unfold sOf
    rw [Bool.eq_false_iff]
    intro hc
    have hm : 39 ∈ l := by simpa using hc
    have := h 39 hm
    revert this; decide +kernel
  have hq : reprQuote (sOf l) = 39 := by
    unfold reprQuote
    rw [hn]; rfl
  unfold reprText
  rw [hq, ← Array.foldl_toList]
  show (⟨(l.foldl _ #[39]).push 39⟩ : Str) = _
  rw [foldl_plain l _ h]
  unfold sOf
  simp
theorem sOf_inj {a b : List Nat} (h : sOf a = sOf b) : a = b := by
  have := congrArg (fun x : Str => x.cps.toList) h
  simpa [sOf] using this
theorem textFrom_pos : ∀ (ls : List (List Nat)) (k : Nat) (acc : List Nat), textFrom (k + 1) (sOf acc) (ls.map sOf) = sOf (acc ++ (ls.map fun l => 44 :: 32 :: l).flatten)
  | [], k, acc => by simp [textFrom]
  | l :: r, k, acc => by
    rw [List.map_cons, textFrom, if_pos (by omega)]
    rw [show ((", " : String) : Str) = sOf [44, 32] from lit_cs, sOf_app, sOf_app, textFrom_pos r]
    simp
theorem joinT_flat : ∀ (l : List Nat) (r : List (List Nat)), joinT (l :: r) = l ++ (r.map fun l => 44 :: 32 :: l).flatten
  | l, [] => by simp [joinT]
  | l, x :: r => by rw [joinT, joinT_flat x r]; simp
theorem listText_sOf (ls : List (List Nat)) : listText (ls.map sOf) = sOf (91 :: (joinT ls ++ [93])) := by
  unfold listText
  rw [show (("]" : String) : Str) = sOf [93] from lit_b2, show (("[" : String) : Str) = sOf [91] from lit_b1]
  cases ls with
  | nil => rw [List.map_nil, textFrom, sOf_app]; rfl
  | cons l r =>
    rw [List.map_cons, textFrom, if_neg (by omega)]
    rw [show (("" : String) : Str) = sOf [] from lit_n, sOf_app, sOf_app, textFrom_pos, sOf_app, joinT_flat]
    simp
theorem lit_p3 : Str.ofString ",)" = sOf [44, 41] := by decide +kernel
theorem tupleText_sOf (ls : List (List Nat)) : tupleText (ls.map sOf) = sOf (40 :: (joinT ls ++ ((if ls.length = 1 then [44] else []) ++ [41]))) := by
  unfold tupleText
  rw [show (("(" : String) : Str) = sOf [40] from lit_p1, show ((", " : String) : Str) = sOf [44, 32] from lit_cs, join_cs, List.length_map]
  by_cases h : ls.length = 1
  · rw [if_pos h, h]
    show _ ++ (Str.ofString ",)") = _
    rw [lit_p3, sOf_app, sOf_app]; simp
  · rw [if_neg h, if_neg (by simpa using h)]
    show _ ++ (Str.ofString ")") = _
    rw [lit_p2, sOf_app, sOf_app]; simp
theorem shown_eq {al : Array UInt8} {sg : Str} (hp : Pr al sg) : ∀ (n : Nat) (t : Tr) (d : Nat), Le n t → (kqdP (wriD (encT al) d t)).shown = sOf (tolT (encT al) d t) := by
  have leaf : ∀ (b : Array UInt8) (d : Nat), b.size ≤ 5 → (kqdP (wriD (encT al) d (.leaf b))).shown = sOf (tolT (encT al) d (.leaf b)) := by
    intro b d hb
    rw [wriD, kqdP, PyData.shown, tolT]
    exact repr_plain (encT_plain hp hb)
  intro n
  induction n with
  | zero =>
    intro t d h
    cases t with
    | node ts => exact h.elim
    | leaf b => exact leaf b d h
  | succ n ih =>
    intro t d h
    cases t with
    | leaf b => exact leaf b d h
    | node ts =>
      have key : ∀ ts : List Tr, (∀ t ∈ ts, Le n t) → PyData.shownAll (kqdPs (wriDs (encT al) (d + 1) ts)) = (tolTs (encT al) (d + 1) ts).map sOf := by
        intro ts
        induction ts with
        | nil => intro _; rfl
        | cons t ts iht =>
          intro ht
          rw [wriDs, kqdPs, PyData.shownAll, tolTs, List.map_cons, ih t (d + 1) (ht t (.head _)), iht fun x hx => ht x (.tail _ hx)]
      rw [wriD, tolT]
      unfold seqD bracT
      split
      · rw [kqdP, PyData.shown, key ts h, tupleText_sOf]
      · rw [kqdP, PyData.shown, key ts h, listText_sOf]
theorem encT_lt {al : Array UInt8} {sg : Str} (hp : Pr al sg) {b : Array UInt8} (hb : b.size ≤ 5) : ∀ c ∈ encT al b, decide (c < 128) = true :=
  encT_all (by decide +kernel) (by decide +kernel) (by decide +kernel) hp hb
theorem strOk_sOf {l : List Nat} (h : ∀ c ∈ l, decide (c < 128) = true) : PyData.strOk (sOf l) = true := by
  unfold PyData.strOk sOf
  rw [Array.all_eq_true]
  intro i hi
  have := h ((l.toArray)[i]) (by simp)
  rw [decide_eq_true_eq] at this ⊢
  exact Nat.lt_of_lt_of_le this (by decide)
theorem wri_ok {al : Array UInt8} {sg : Str} (hp : Pr al sg) : ∀ (n : Nat) (t : Tr) (d : Nat), Le n t → (kqdP (wriD (encT al) d t)).showable = true ∧ (kqdP (wriD (encT al) d t)).hasDict = false ∧ (kqdP (wriD (encT al) d t)).depth ≤ n ∧ kqdOk n (wriD (encT al) d t) = true := by
  have leaf : ∀ (n : Nat) (b : Array UInt8) (d : Nat), b.size ≤ 5 → (kqdP (wriD (encT al) d (.leaf b))).showable = true ∧ (kqdP (wriD (encT al) d (.leaf b))).hasDict = false ∧ (kqdP (wriD (encT al) d (.leaf b))).depth ≤ n ∧ kqdOk n (wriD (encT al) d (.leaf b)) = true := by
    intro n b d hb
    rw [wriD, kqdP]
    refine ⟨rfl, rfl, Nat.zero_le _, ?_⟩
    have := strOk_sOf (encT_lt hp hb)
    cases n <;> simpa [kqdOk] using this
  intro n
  induction n with
  | zero =>
    intro t d h
    cases t with
    | node ts => exact h.elim
    | leaf b => exact leaf 0 b d h
  | succ n ih =>
    intro t d h
    cases t with
    | leaf b => exact leaf _ b d h
    | node ts =>
      have key : ∀ ts : List Tr, (∀ t ∈ ts, Le n t) → PyData.showableAll (kqdPs (wriDs (encT al) (d + 1) ts)) = true ∧ PyData.hasDictAll (kqdPs (wriDs (encT al) (d + 1) ts)) = false ∧ PyData.depthAll (kqdPs (wriDs (encT al) (d + 1) ts)) ≤ n ∧ (wriDs (encT al) (d + 1) ts).all (kqdOk n) = true := by
        intro ts
        induction ts with
        | nil => intro _; exact ⟨rfl, rfl, Nat.zero_le _, rfl⟩
        | cons t ts iht =>
          intro ht
          obtain ⟨a1, a2, a3, a4⟩ := ih t (d + 1) (ht t (.head _))
          obtain ⟨b1, b2, b3, b4⟩ := iht fun x hx => ht x (.tail _ hx)
          rw [wriDs, kqdPs]
          refine ⟨?_, ?_, ?_, ?_⟩
          · rw [PyData.showableAll, a1, b1]; rfl
          · rw [PyData.hasDictAll, a2, b2]; rfl
          · rw [PyData.depthAll]; omega
          · rw [List.all_cons, a4, b4]; rfl
      obtain ⟨b1, b2, b3, b4⟩ := key ts h
      rw [wriD]
      unfold seqD
      split
      · rw [kqdP]
        refine ⟨by rw [PyData.showable]; exact b1, by rw [PyData.hasDict]; exact b2, by rw [PyData.depth]; omega, by rw [kqdOk]; exact b4⟩
      · rw [kqdP]
        refine ⟨by rw [PyData.showable]; exact b1, by rw [PyData.hasDict]; exact b2, by rw [PyData.depth]; omega, by rw [kqdOk]; exact b4⟩
/-- a datum read in any heap -/
theorem AtD.reads {h : Heap} {v : Value} {d : Dat} {n : Nat} (a : AtD h v d) (hk : kqdOk n d = true) : ∃ as, Reads h v (kqdP d) as := by
  obtain ⟨nw, hnw, hd⟩ := a
  have N : News { objs := #[] } h.objs.size h nw := fun p hp => ⟨hnw p hp, Nat.ne_of_lt (Heap.lt_size (hnw p hp)), by simp [Heap.get?]⟩
  exact kqd_in N n hd hk
def truncT : List Nat := [32, 91, 116, 114, 117, 110, 99, 97, 116, 101, 100, 93, 46, 46, 46]
def shortT (l : List Nat) : List Nat := if l.length < 80 then l else l.take 80 ++ truncT
theorem lit_tr : Str.ofString " [truncated]..." = sOf truncT := by decide +kernel
end Mine
end
section
open PySem PySem.W PySem.Spec PySem.Calls PyProof.Rows
set_option maxRecDepth 100000
namespace Mine
open PySem.StrLaws
/-- one step of the word search -/
theorem sw_go {s : Str} {lim cur m : Nat} {st st' : SwSt} (h : swBody s lim cur st = pure (ForInStep.yield st')) : (forIn (List.range' cur (m + 1)) st (swBody s lim)).run = (forIn (List.range' (cur + 1) m) st' (swBody s lim)).run := by
  rw [List.range'_succ, List.forIn_cons, h]; rfl
theorem sw_none {s : Str} {lim cur : Nat} {W : Array (Nat × Nat)} (hw : W.size < lim) (hs : Unicode.isSpace (s.cps.getD cur 0) = true) : swBody s lim cur (none, W, none) = pure (ForInStep.yield (none, W, none)) := by
  have hsz : ¬ ((W.size == lim) = true) := by rw [beq_iff_eq]; lia
  unfold swBody
  simp only [hsz, hs]
  rfl
theorem sw_start {s : Str} {lim cur : Nat} {W : Array (Nat × Nat)} (hw : W.size < lim) (hs : Unicode.isSpace (s.cps.getD cur 0) = false) : swBody s lim cur (none, W, none) = pure (ForInStep.yield (none, W, some cur)) := by
  have hsz : ¬ ((W.size == lim) = true) := by rw [beq_iff_eq]; lia
  unfold swBody
  simp only [hsz, hs]
  rfl
theorem sw_in {s : Str} {lim cur b : Nat} {W : Array (Nat × Nat)} (hw : W.size < lim) (hs : Unicode.isSpace (s.cps.getD cur 0) = false) : swBody s lim cur (none, W, some b) = pure (ForInStep.yield (none, W, some b)) := by
  have hsz : ¬ ((W.size == lim) = true) := by rw [beq_iff_eq]; lia
  unfold swBody
  simp only [hsz, hs]
  rfl
theorem sw_stop {s : Str} {lim cur b : Nat} {W : Array (Nat × Nat)} (hw : W.size < lim) (hs : Unicode.isSpace (s.cps.getD cur 0) = true) : swBody s lim cur (none, W, some b) = pure (ForInStep.yield (none, W.push (b, cur), none)) := by
  have hsz : ¬ ((W.size == lim) = true) := by rw [beq_iff_eq]; lia
  unfold swBody
  simp only [hsz, hs]
  rfl
theorem sw_blanks {s : Str} {lim : Nat} {W : Array (Nat × Nat)} (hw : W.size < lim) : ∀ (n cur m : Nat), (∀ j, cur ≤ j → j < cur + n → Unicode.isSpace (s.cps.getD j 0) = true) → (forIn (List.range' cur (n + m)) ((none, W, none) : SwSt) (swBody s lim)).run = (forIn (List.range' (cur + n) m) ((none, W, none) : SwSt) (swBody s lim)).run
  | 0, cur, m, _ => by simp
  | n + 1, cur, m, h => by
    rw [show n + 1 + m = (n + m) + 1 by lia, sw_go (sw_none hw (h cur (Nat.le_refl _) (by lia))), sw_blanks hw n (cur + 1) m fun j h1 h2 => h j (by lia) (by lia), show cur + 1 + n = cur + (n + 1) by lia]
theorem sw_word {s : Str} {lim b : Nat} {W : Array (Nat × Nat)} (hw : W.size < lim) : ∀ (n cur m : Nat), (∀ j, cur ≤ j → j < cur + n → Unicode.isSpace (s.cps.getD j 0) = false) → (forIn (List.range' cur (n + m)) ((none, W, some b) : SwSt) (swBody s lim)).run = (forIn (List.range' (cur + n) m) ((none, W, some b) : SwSt) (swBody s lim)).run
  | 0, cur, m, _ => by simp
  | n + 1, cur, m, h => by
    rw [show n + 1 + m = (n + m) + 1 by lia, sw_go (sw_in hw (h cur (Nat.le_refl _) (by lia))), sw_word hw n (cur + 1) m fun j h1 h2 => h j (by lia) (by lia), show cur + 1 + n = cur + (n + 1) by lia]
theorem sub_sOf (l : List Nat) (i j : Nat) : Builtin.Str.strSub (sOf l) i j = sOf ((l.take j).drop i) := by
  unfold Builtin.Str.strSub sOf
  simp [List.drop_take]
/-- from a stretch's middle: what is found, with the word begun -/
theorem sw_all (l : List Nat) (lim : Nat) (hlim : l.length < lim) : ∀ (ws : List Wd) (pre : List Nat) (W : Array (Nat × Nat)), l = pre ++ stTxt ws → (∀ x ∈ ws, x.Ok) → (∀ x ∈ ws, 1 ≤ x.n) → ∀ b, b < pre.length → W.size ≤ b →
    (swEnd (sOf l) (forIn (List.range' pre.length (stTxt ws).length) ((none, W, some b) : SwSt) (swBody (sOf l) lim)).run).map (fun (p : Nat × Nat) => Builtin.Str.strSub (sOf l) p.1 p.2) =
      (W.toList.map fun (p : Nat × Nat) => Builtin.Str.strSub (sOf l) p.1 p.2) ++ [Builtin.Str.strSub (sOf l) b pre.length] ++ ws.map fun x => sOf x.body := by
  intro ws
  induction ws with
  | nil =>
    intro pre W hl _ _ b hb hW
    have e : stTxt [] = [] := rfl
    rw [e, List.append_nil] at hl
    subst hl
    rw [e]
    simp [swEnd, sOf_len]
  | cons x ws ih =>
    intro pre W hl ok ha b hb hW
    have ox := ok x (.head _)
    obtain ⟨n, hn⟩ : ∃ n, x.n = n + 1 := ⟨x.n - 1, by have := ha x (.head _); lia⟩
    have hbl : x.body ≠ [] := body_ne ox
    obtain ⟨k, hk⟩ : ∃ k, x.body.length = k + 1 := ⟨x.body.length - 1, by have := List.length_pos_iff.mpr hbl; lia⟩
    have e : stTxt (x :: ws) = List.replicate x.n 32 ++ (x.body ++ stTxt ws) := by simp [stTxt, Wd.txt]
    rw [e] at hl
    have hlen : l.length = pre.length + (x.n + (x.body.length + (stTxt ws).length)) := by rw [hl]; simp only [List.length_append, List.length_replicate]
    have hsp : ∀ j, pre.length ≤ j → j < pre.length + x.n → Unicode.isSpace ((sOf l).cps.getD j 0) = true := by
      intro j h1 h2
      have hj : j < l.length := by lia
      have : (sOf l).cps.getD j 0 = l[j] := by simp [sOf, Array.getD, hj]
      rw [this]
      subst hl
      rw [List.getElem_append_right h1, List.getElem_append_left (by rw [List.length_replicate]; lia), List.getElem_replicate]
      exact sp32
    have hnb : ∀ j, pre.length + x.n ≤ j → j < pre.length + x.n + x.body.length → Unicode.isSpace ((sOf l).cps.getD j 0) = false := by
      intro j h1 h2
      have hj : j < l.length := by lia
      have : (sOf l).cps.getD j 0 = l[j] := by simp [sOf, Array.getD, hj]
      rw [this]
      subst hl
      rw [List.getElem_append_right (by lia), List.getElem_append_right (by rw [List.length_replicate]; lia), List.getElem_append_left (by rw [List.length_replicate]; lia)]
      exact valP_sp (body_ok ox _ (List.getElem_mem _)).1
    have hWl : W.size < lim := by lia
    rw [e]
    simp only [List.length_append, List.length_replicate]
    rw [hn, hk, show n + 1 + (k + 1 + (stTxt ws).length) = (n + ((k + (stTxt ws).length) + 1)) + 1 by lia]
    rw [sw_go (sw_stop hWl (hsp _ (Nat.le_refl _) (by lia)))]
    have hW2 : (W.push (b, pre.length)).size < lim := by rw [Array.size_push]; lia
    rw [sw_blanks hW2 n _ _ fun j h1 h2 => hsp j (by lia) (by lia)]
    rw [sw_go (sw_start hW2 (hnb _ (by lia) (by lia)))]
    rw [sw_word hW2 k _ _ fun j h1 h2 => hnb j (by lia) (by lia)]
    have hp : (pre ++ (List.replicate x.n 32 ++ x.body)).length = pre.length + 1 + n + 1 + k := by simp only [List.length_append, List.length_replicate]; lia
    have := ih (pre ++ (List.replicate x.n 32 ++ x.body)) (W.push (b, pre.length)) (by rw [hl]; simp) (fun y hy => ok y (.tail _ hy)) (fun y hy => ha y (.tail _ hy)) (pre.length + 1 + n) (by rw [hp]; lia) (by rw [Array.size_push]; lia)
    rw [hp] at this
    rw [this]
    have hsub : Builtin.Str.strSub (sOf l) (pre.length + 1 + n) (pre.length + 1 + n + 1 + k) = sOf x.body := by
      rw [sub_sOf]
      congr 1
      rw [hl, show pre ++ (List.replicate x.n 32 ++ (x.body ++ stTxt ws)) = (pre ++ List.replicate x.n 32) ++ (x.body ++ stTxt ws) by simp]
      rw [List.drop_take, List.drop_left' (by simp; lia), List.take_left' (by lia)]
    rw [hsub]
    simp
theorem words_eq (x : Wd) (ws : List Wd) (h : StOk (x :: ws)) : Txt.words (sOf (stTxt (x :: ws))) = (x :: ws).map fun y => sOf y.body := by
  have ox := h.1 x (.head _)
  have key : PySem.wordsOf (sOf (stTxt (x :: ws))) = (x :: ws).map fun y => sOf y.body := by
    unfold PySem.wordsOf
    rw [sw_eq]
    have hbl : x.body ≠ [] := body_ne ox
    obtain ⟨k, hk⟩ : ∃ k, x.body.length = k + 1 := ⟨x.body.length - 1, by have := List.length_pos_iff.mpr hbl; lia⟩
    have e : stTxt (x :: ws) = List.replicate x.n 32 ++ (x.body ++ stTxt ws) := by simp [stTxt, Wd.txt]
    generalize hl : stTxt (x :: ws) = l at *
    have hlen : l.length = x.n + (x.body.length + (stTxt ws).length) := by rw [e]; simp only [List.length_append, List.length_replicate]
    have hsp : ∀ j, 0 ≤ j → j < 0 + x.n → Unicode.isSpace ((sOf l).cps.getD j 0) = true := by
      intro j h1 h2
      have hj : j < l.length := by lia
      have : (sOf l).cps.getD j 0 = l[j] := by simp [sOf, Array.getD, hj]
      rw [this]
      subst e
      rw [List.getElem_append_left (by rw [List.length_replicate]; lia), List.getElem_replicate]
      exact sp32
    have hnb : ∀ j, 0 + x.n ≤ j → j < 0 + x.n + x.body.length → Unicode.isSpace ((sOf l).cps.getD j 0) = false := by
      intro j h1 h2
      have hj : j < l.length := by lia
      have : (sOf l).cps.getD j 0 = l[j] := by simp [sOf, Array.getD, hj]
      rw [this]
      subst e
      rw [List.getElem_append_right (by rw [List.length_replicate]; lia), List.getElem_append_left (by rw [List.length_replicate]; lia)]
      exact valP_sp (body_ok ox _ (List.getElem_mem _)).1
    rw [sOf_len]
    have hW : (#[] : Array (Nat × Nat)).size < l.length + 1 := by show 0 < _; lia
    have hrng : List.range' 0 l.length = List.range' 0 (x.n + ((k + (stTxt ws).length) + 1)) := by rw [hlen, hk]; congr 1; lia
    rw [hrng, sw_blanks hW x.n 0 _ hsp, sw_go (sw_start hW (hnb _ (by lia) (by lia))), sw_word hW k _ _ fun j h1 h2 => hnb j (by lia) (by lia)]
    have hp : (List.replicate x.n 32 ++ x.body).length = 0 + x.n + 1 + k := by simp only [List.length_append, List.length_replicate]; lia
    have := sw_all l (l.length + 1) (Nat.lt_succ_self _) ws (List.replicate x.n 32 ++ x.body) #[] (by rw [e]; simp) (fun y hy => h.1 y (.tail _ hy)) (fun y hy => h.2 y hy) (0 + x.n) (by rw [hp]; lia) (by show 0 ≤ _; lia)
    rw [hp] at this
    rw [show (fun (x : Nat × Nat) => match x with | (i, j) => Builtin.Str.strSub (sOf l) i j) = fun (p : Nat × Nat) => Builtin.Str.strSub (sOf l) p.1 p.2 from rfl, this]
    have hsub : Builtin.Str.strSub (sOf l) (0 + x.n) (0 + x.n + 1 + k) = sOf x.body := by
      rw [sub_sOf]
      congr 1
      rw [e, List.drop_take, List.drop_left' (by simp), List.take_left' (by lia)]
    rw [hsub]
    simp
  unfold Txt.words
  split
  · rename_i hc
    rw [← key]
    unfold PySem.wordsOf
    rw [beq_iff_eq.mp hc]
    show [_] = [Builtin.Str.strSub _ 0 _]
    congr 1
    exact (strSub_whole _).symm
  · exact key
/-- parts joined by commas -/
noncomputable def jl : List (List Nat) → List Nat
  | [] => []
  | [x] => x
  | x :: y :: r => x ++ 44 :: jl (y :: r)
theorem join_jl : ∀ cs : List (List Nat), Str.join (sOf [44]) (cs.map sOf) = sOf (jl cs)
  | [] => by simp [Str.join, jl]; rfl
  | [x] => by simp [Str.join, jl]
  | x :: y :: r => by
    have ih := join_jl (y :: r)
    simp only [List.map_cons] at ih ⊢
    rw [Str.join, ih, sOf_app, sOf_app, jl]
    · simp
    · intro h; cases h
theorem cut_eq {x y R S : List Nat} (hx : 44 ∉ x) (hy : 44 ∉ y) (hR : ∀ c, R.head? = some c → c = 44) (hS : ∀ c, S.head? = some c → c = 44) (h : x ++ R = y ++ S) : x = y ∧ R = S := by
  induction x generalizing y with
  | nil =>
    cases y with
    | nil => exact ⟨rfl, h⟩
    | cons b y =>
      rw [List.nil_append] at h
      have := hR b (by rw [h]; rfl)
      subst this
      exact absurd (.head _) hy
  | cons a x ih =>
    cases y with
    | nil =>
      rw [List.nil_append] at h
      have := hS a (by rw [← h]; rfl)
      subst this
      exact absurd (.head _) hx
    | cons b y =>
      rw [List.cons_append, List.cons_append] at h
      obtain ⟨e1, e2⟩ := List.cons.inj h
      subst e1
      obtain ⟨rfl, e⟩ := ih (fun hm => hx (.tail _ hm)) (fun hm => hy (.tail _ hm)) e2
      exact ⟨rfl, e⟩
theorem jl_cons (x : List Nat) (r : List (List Nat)) : jl (x :: r) = x ++ (if r = [] then [] else 44 :: jl r) := by
  cases r with
  | nil => simp [jl]
  | cons y r => simp [jl]
theorem jl_inj : ∀ (ps qs : List (List Nat)), ps ≠ [] → qs ≠ [] → (∀ p ∈ ps, 44 ∉ p) → (∀ q ∈ qs, 44 ∉ q) → jl ps = jl qs → ps = qs
  | [], _, h, _, _, _, _ => absurd rfl h
  | _ :: _, [], _, h, _, _, _ => absurd rfl h
  | x :: r, y :: t, _, _, hp, hq, h => by
    rw [jl_cons, jl_cons] at h
    obtain ⟨e1, e2⟩ := cut_eq (hp x (.head _)) (hq y (.head _)) (by intro c hc; split at hc <;> cases hc; rfl) (by intro c hc; split at hc <;> cases hc; rfl) h
    subst e1
    cases r with
    | nil =>
      cases t with
      | nil => rfl
      | cons z t => simp at e2
    | cons w r =>
      cases t with
      | nil => simp at e2
      | cons z t =>
        rw [if_neg (by simp), if_neg (by simp)] at e2
        rw [jl_inj (w :: r) (z :: t) (by simp) (by simp) (fun p hp' => hp p (.tail _ hp')) (fun q hq' => hq q (.tail _ hq')) (List.cons.inj e2).2]
theorem valP44 {c : Nat} (h : valP c = true) : c ≠ 44 := by
  rintro rfl; rw [vl44] at h; cases h
theorem stTxt_free {ws : List Wd} (ok : ∀ x ∈ ws, x.Ok) : 44 ∉ stTxt ws := by
  intro h
  unfold stTxt at h
  obtain ⟨x, hx, hm⟩ := List.mem_flatMap.mp h
  unfold Wd.txt at hm
  rcases List.mem_append.mp hm with hm | hm
  · have := (List.mem_replicate.mp hm).2; cases this
  · exact valP44 (body_ok (ok x hx) _ hm).1 rfl
theorem stsTxt_jl : ∀ (st : List Wd) (more : List (List Wd)), stsTxt (st :: more) = jl ((st :: more).map stTxt)
  | st, [] => by simp [stsTxt, tlTxt, moreTxt, jl]
  | st, x :: more => by
    have := stsTxt_jl x more
    simp only [stsTxt, tlTxt, List.map_cons] at this ⊢
    rw [jl, ← this]
    simp [moreTxt]
theorem split_eq (st : List Wd) (more : List (List Wd)) (h : ∀ s ∈ st :: more, StOk s) : Txt.split (sOf (stsTxt (st :: more))) (Str.ofString ",") = (st :: more).map fun s => sOf (stTxt s) := by
  rw [lit_c]
  have hj := join_split (sOf (stsTxt (st :: more))) (sOf [44])
  have hf := split_free (sOf (stsTxt (st :: more))) 44
  have hpos := split_pos (sOf (stsTxt (st :: more))) (sOf [44])
  rw [show (⟨#[44]⟩ : Str) = sOf [44] from rfl] at hf
  generalize Txt.split (sOf (stsTxt (st :: more))) (sOf [44]) = P at *
  have hP : P = (P.map fun p => p.cps.toList).map sOf := by
    rw [List.map_map]
    have : (sOf ∘ fun (p : Str) => p.cps.toList) = id := by funext p; simp [sOf]
    rw [this, List.map_id]
  rw [hP, join_jl] at hj
  have := sOf_inj hj
  rw [stsTxt_jl] at this
  have e := jl_inj _ _ (by intro e; rw [List.map_eq_nil_iff] at e; subst e; simp at hpos) (by simp) (by
    intro p hp
    obtain ⟨q, hq, rfl⟩ := List.mem_map.mp hp
    exact hf q hq) (by
    intro q hq
    obtain ⟨s, hs, rfl⟩ := List.mem_map.mp hq
    exact stTxt_free (h s hs).1) this
  rw [hP, e, List.map_map]; rfl
theorem at_iff (l : List Nat) (i : Nat) : At (sOf l) (sOf [61]) (sOf l).length i ↔ l[i]? = some 61 := by
  unfold At Builtin.Str.subAt
  rw [sOf_len, sOf_len]
  have e : (sOf l).cps.extract i (i + [61].length) = ((l.drop i).take 1).toArray := by unfold sOf; simp
  rw [e]
  show (i + 1 ≤ l.length ∧ (((l.drop i).take 1).toArray == #[61]) = true) ↔ _
  rw [beq_iff_eq]
  constructor
  · rintro ⟨h1, h2⟩
    have h3 : (l.drop i).take 1 = [61] := by simpa using h2
    rw [← List.head?_drop]
    cases hd : l.drop i with
    | nil => rw [hd] at h3; cases h3
    | cons a r => rw [hd] at h3; simp at h3; subst h3; rfl
  · intro h
    obtain ⟨hl, hv⟩ := List.getElem?_eq_some_iff.mp h
    refine ⟨hl, ?_⟩
    rw [List.drop_eq_getElem_cons hl, hv]
    rfl
theorem key_free {x : Wd} (o : x.Ok) : 61 ∉ x.key := by
  intro h
  have := (o.key 61 h).1
  rw [tk61] at this; cases this
theorem part_eq {x : Wd} (o : x.Ok) : Txt.partition (sOf x.body) (Str.ofString "=") = (sOf x.key, (match x.val with | none => sOf [] | some _ => sOf [61]), (match x.val with | none => sOf [] | some v => sOf v)) := by
  rw [lit_e]
  have hk := key_free o
  cases hv : x.val with
  | none =>
    have hb : x.body = x.key := by unfold Wd.body; rw [hv]; simp
    rw [hb]
    unfold Txt.partition
    have := empty_one (sOf x.key) 61
    rw [show (⟨#[61]⟩ : Str) = sOf [61] from rfl] at this
    rw [show decide (61 ∈ (sOf x.key).cps.toList) = false from decide_eq_false hk, Bool.not_false, List.isEmpty_iff] at this
    rw [this]; rfl
  | some v =>
    have hb : x.body = x.key ++ 61 :: v := by unfold Wd.body; rw [hv]
    unfold Txt.partition
    have hat : At (sOf x.body) (sOf [61]) (sOf x.body).length x.key.length := by rw [at_iff, hb]; simp
    rcases occ_head (sOf x.body) (sOf [61]) 1 (Nat.le_refl _) with ⟨_, hn⟩ | ⟨i, r, e, hi, hn⟩
    · exact absurd hat (hn _)
    · have h1 : ¬ x.key.length < i := fun hlt => hn _ hlt hat
      have h2 : ¬ i < x.key.length := by
        intro hlt
        rw [at_iff, hb, List.getElem?_append_left hlt] at hi
        exact hk (List.mem_of_getElem? hi)
      have ei : i = x.key.length := by lia
      subst ei
      rw [e]
      dsimp only
      rw [sub_sOf, sub_sOf, hb, sOf_len, sOf_len]
      rw [List.take_of_length_le (Nat.le_refl _), show x.key ++ 61 :: v = (x.key ++ [61]) ++ v by simp, List.drop_left' (by simp), show (x.key ++ [61]) ++ v = x.key ++ 61 :: v by simp, List.drop_zero, List.take_left' rfl]
end Mine
end
section
open PySem PySem.W PySem.Spec PySem.Calls PyProof.Rows
set_option maxRecDepth 100000
namespace Mine
def wMark (x : Wd) : List Nat := match x.val with | none => [] | some _ => [61]
def wRest (x : Wd) : List Nat := match x.val with | none => [] | some v => v
theorem part_eq' {x : Wd} (o : x.Ok) : Txt.partition (sOf x.body) (Str.ofString "=") = (sOf x.key, sOf (wMark x), sOf (wRest x)) := by
  rw [part_eq o]
  unfold wMark wRest
  cases x.val <;> rfl
/-- one word laid to a row -/
def rowStep (ps : List Pair) (x : Wd) : List Pair :=
  match ps.getLast? with
  | none => [(x.key, x.val)]
  | some p => if p.2 = some [] then ps.dropLast ++ [(p.1, some x.body)] else ps ++ [(x.key, x.val)]
def LastOk (ps : List Pair) : Prop := ∀ p, ps.getLast? = some p → p.2 ≠ some []
theorem rowStep_ok {ps : List Pair} (h : LastOk ps) (x : Wd) : rowStep ps x = ps ++ [(x.key, x.val)] := by
  unfold rowStep
  cases e : ps.getLast? with
  | none => rw [List.getLast?_eq_none_iff] at e; subst e; rfl
  | some p => exact if_neg (h p e)
theorem rowStep_mg {ps : List Pair} {k : List Nat} (x : Wd) : rowStep (ps ++ [(k, some [])]) x = ps ++ [(k, some x.body)] := by
  unfold rowStep
  rw [List.getLast?_concat]
  dsimp only
  rw [if_pos rfl, List.dropLast_concat]
theorem lastOk_snoc {ps : List Pair} {p : Pair} (h : p.2 ≠ some []) : LastOk (ps ++ [p]) := by
  intro q hq
  rw [List.getLast?_concat] at hq
  cases hq; exact h
theorem fold_rows : ∀ (n : Nat) (ws : List Wd) (ps : List Pair), ws.length ≤ n → (∀ x ∈ ws, x.Ok) → LastOk ps → ws.foldl rowStep ps = ps ++ rowOf ws := by
  intro n
  induction n with
  | zero =>
    intro ws ps hn _ _
    have : ws = [] := List.length_eq_zero_iff.mp (by lia)
    subst this; simp [rowOf]
  | succ n ih =>
    intro ws ps hn ok hl
    cases ws with
    | nil => simp [rowOf]
    | cons x ws =>
      cases ws with
      | nil => rw [List.foldl_cons, List.foldl_nil, rowStep_ok hl]; rfl
      | cons y ws =>
        rw [List.foldl_cons, rowStep_ok hl]
        by_cases hv : x.val = some []
        · rw [hv, List.foldl_cons, rowStep_mg, ih ws _ (by simp only [List.length_cons] at hn; lia) (fun z hz => ok z (.tail _ (.tail _ hz))) (lastOk_snoc (by
            intro e
            exact body_ne (ok y (.tail _ (.head _))) (Option.some.inj e)))]
          rw [rowOf, if_pos hv]; simp
        · rw [ih (y :: ws) _ (by simp only [List.length_cons] at hn ⊢; lia) (fun z hz => ok z (.tail _ hz)) (lastOk_snoc hv)]
          rw [rowOf, if_neg hv]; simp
theorem fold_row (ws : List Wd) (ok : ∀ x ∈ ws, x.Ok) : ws.foldl rowStep [] = rowOf ws := by
  rw [fold_rows ws.length ws [] (Nat.le_refl _) ok (fun p h => by cases h)]; rfl
def PrOk (p : Pair) : Prop := (∀ c ∈ p.1, decide (c < 128) = true) ∧ ∀ v, p.2 = some v → ∀ c ∈ v, decide (c < 128) = true
theorem pair_ok {p : Pair} (h : PrOk p) : kqdOk 2 (pairD p) = true := by
  obtain ⟨k, vo⟩ := p
  unfold pairD
  rw [kqdOk]
  simp only [List.all_cons, List.all_nil, Bool.and_true, Bool.and_eq_true]
  refine ⟨by simpa [kqdOk] using strOk_sOf h.1, ?_⟩
  cases vo with
  | none => rfl
  | some v => simpa [kqdOk] using strOk_sOf (h.2 v rfl)
theorem kqdOk_mono : ∀ {n m : Nat} {d : Dat}, n ≤ m → kqdOk n d = true → kqdOk m d = true := by
  intro n
  induction n with
  | zero =>
    intro m d _ h
    cases d <;> cases m <;> simp_all [kqdOk]
  | succ n ih =>
    intro m d hnm h
    obtain ⟨m, rfl⟩ : ∃ k, m = k + 1 := ⟨m - 1, by lia⟩
    cases d with
    | tuple ds =>
      rw [kqdOk, List.all_eq_true] at h ⊢
      exact fun d hd => ih (by lia) (h d hd)
    | list ds =>
      rw [kqdOk, List.all_eq_true] at h ⊢
      exact fun d hd => ih (by lia) (h d hd)
    | _ => simp_all [kqdOk]
theorem pair_ok8 {p : Pair} (h : PrOk p) : kqdOk 8 (pairD p) = true := kqdOk_mono (by decide) (pair_ok h)
def WdL (x : Wd) : Prop := ∀ c ∈ x.body, decide (c < 128) = true
theorem WdL.key {x : Wd} (h : WdL x) : ∀ c ∈ x.key, decide (c < 128) = true := fun c hc => h c (by unfold Wd.body; exact List.mem_append.mpr (.inl hc))
theorem WdL.val {x : Wd} (h : WdL x) : ∀ v, x.val = some v → ∀ c ∈ v, decide (c < 128) = true := fun v hv c hc => h c (by unfold Wd.body; rw [hv]; exact List.mem_append.mpr (.inr (.tail _ hc)))
theorem rowStep_pr {ps : List Pair} {x : Wd} (h : ∀ p ∈ ps, PrOk p) (hx : WdL x) : ∀ p ∈ rowStep ps x, PrOk p := by
  have h1 : PrOk (x.key, x.val) := ⟨hx.key, hx.val⟩
  intro p hp
  unfold rowStep at hp
  split at hp
  · rw [List.mem_singleton.mp hp]; exact h1
  · rename_i q e
    have hq := h q (List.mem_of_getLast? e)
    split at hp
    · rcases List.mem_append.mp hp with hp | hp
      · exact h p (List.dropLast_subset _ hp)
      · rw [List.mem_singleton.mp hp]
        exact ⟨hq.1, fun v hv => by cases hv; exact hx⟩
    · rcases List.mem_append.mp hp with hp | hp
      · exact h p hp
      · rw [List.mem_singleton.mp hp]; exact h1
theorem fold_pr : ∀ (ws : List Wd) (ps : List Pair), (∀ p ∈ ps, PrOk p) → (∀ x ∈ ws, WdL x) → ∀ p ∈ ws.foldl rowStep ps, PrOk p
  | [], ps, h, _ => h
  | x :: ws, ps, h, hw => fold_pr ws _ (rowStep_pr h (hw x (.head _))) fun y hy => hw y (.tail _ hy)
theorem strs_of : ∀ {l : List (Str × Tok)} {cs : List (List Nat)}, l.map (·.1) = cs.map sOf → Strs (strValues l) cs
  | [], [], _ => Strs.nil
  | [], _ :: _, h => by cases h
  | _ :: _, [], h => by cases h
  | (a, t) :: l, c :: cs, h => by
    have e1 : a = sOf c := (List.cons.inj h).1
    subst e1
    exact Strs.cons (strs_of (List.cons.inj h).2)
theorem Strs.at : ∀ {vs : List Value} {cs : List (List Nat)}, Strs vs cs → ∀ {i : Nat} {v : Value}, vs[i]? = some v → ∃ c t, cs[i]? = some c ∧ v = .str (sOf c) t
  | _, _, .nil, i, v, h => by simp at h
  | _, _, .cons (c := c) (t := t) r, i, v, h => by
    cases i with
    | zero => simp at h; subst h; exact ⟨c, t, by simp, rfl⟩
    | succ i => simp at h; obtain ⟨c', t', hc, hv⟩ := Strs.at r h; exact ⟨c', t', by simpa using hc, hv⟩
theorem jl_le : ∀ {ps : List (List Nat)} {p : List Nat}, p ∈ ps → p.length ≤ (jl ps).length
  | x :: r, p, h => by
    rw [jl_cons, List.length_append]
    rcases List.mem_cons.mp h with rfl | h
    · lia
    · have := jl_le h
      rw [if_neg (by rintro rfl; cases h), List.length_cons]
      lia
theorem sts_le {st0 : List Wd} {more : List (List Wd)} {ws : List Wd} (h : ws ∈ st0 :: more) : (stTxt ws).length ≤ (stsTxt (st0 :: more)).length := by
  rw [stsTxt_jl]; exact jl_le (List.mem_map.mpr ⟨ws, h, rfl⟩)
theorem body_le {x : Wd} {ws : List Wd} (h : x ∈ ws) : x.body.length ≤ (stTxt ws).length := by
  induction ws with
  | nil => cases h
  | cons y ws ih =>
    have e : stTxt (y :: ws) = List.replicate y.n 32 ++ (y.body ++ stTxt ws) := by simp [stTxt, Wd.txt]
    rw [e]; simp only [List.length_append, List.length_replicate]
    rcases List.mem_cons.mp h with rfl | h
    · lia
    · have := ih h; lia
/-- two lists of the frame, one of them under way -/
structure Two (own : List (Addr × Obj)) (qa ra : Addr) (qits rits : List Value) (dl : List (Addr × Obj)) (ps rs : List Dat) : Prop where
  ne : @Ne Nat qa ra
  odl : OwnOff dl [qa, ra]
  oown : OwnOff own [qa, ra]
  oo : OwnOff own (dl.map (·.1))
  dp : DatAll dl qits ps
  dr : DatAll dl rits rs
theorem Two.push {own : List (Addr × Obj)} {qa ra q : Addr} {qits rits : List Value} {dl : List (Addr × Obj)} {ps rs : List Dat} {o : Obj} {d : Dat} (S : Two own qa ra qits rits dl ps rs) (l1 : @LT.lt Nat _ qa q) (l2 : @LT.lt Nat _ ra q) (l3 : AllLt q own) (hd : DatIn ((q, o) :: dl) (.ref q) d) :
    Two own qa ra (qits ++ [.ref q]) rits ((q, o) :: dl) (ps ++ [d]) rs := by
  obtain ⟨ne, odl, oown, oo, dp, dr⟩ := S
  refine ⟨ne, OwnOff.cons ?_ odl, oown, ?_, DatAll.append (dp.mono fun p hp => .tail _ hp) (DatAll.one hd), dr.mono fun p hp => .tail _ hp⟩
  · intro b hb
    rcases List.mem_cons.mp hb with rfl | hb
    · exact Nat.ne_of_gt l1
    · rw [List.mem_singleton.mp hb]; exact Nat.ne_of_gt l2
  · intro p hp b hb
    rcases List.mem_cons.mp hb with rfl | hb
    · exact (AllLt.ne l3 p hp).symm
    · exact oo p hp b hb
theorem AllLt.cons {q : Nat} {p : Addr × Obj} {l : List (Addr × Obj)} (h1 : @LT.lt Nat _ p.1 q) (h2 : AllLt q l) : AllLt q (p :: l) := ⟨h1, h2⟩
/-- a new list in the place of the one under way -/
theorem Two.renew {own : List (Addr × Obj)} {qa ra q : Addr} {qits rits its' : List Value} {dl dl' : List (Addr × Obj)} {ps rs ps' : List Dat} (S : Two own qa ra qits rits dl ps rs) (l2 : @LT.lt Nat _ ra q) (l3 : AllLt q dl') (l4 : AllLt q own) (hr : OwnOff dl' [ra]) (ho : OwnOff own (dl'.map (·.1))) (hs : ∀ p ∈ dl, p ∈ dl') (hd : DatAll dl' its' ps') :
    Two own q ra its' rits dl' ps' rs := by
  obtain ⟨ne, odl, oown, oo, dp, dr⟩ := S
  refine ⟨Nat.ne_of_gt l2, ?_, ?_, ho, hd, dr.mono hs⟩
  · intro p hp b hb
    rcases List.mem_cons.mp hb with rfl | hb
    · exact (AllLt.ne l3 p hp).symm
    · exact hr p hp b hb
  · intro p hp b hb
    rcases List.mem_cons.mp hb with rfl | hb
    · exact (AllLt.ne l4 p hp).symm
    · exact oown p hp b (.tail _ hb)
inductive RwJ (sts : List (List Wd)) (i : Nat) (m : Str → Option Value) (nx : List (Addr × Obj)) : Prop
  | mk (ra : Addr) (its : List Value) (k : Nat) (dl : List (Addr × Obj)) (h0 : nx = (ra, W.listOf its.toArray k) :: dl) (h1 : OwnOff dl [ra]) (h2 : DatAll dl its ((sts.take i).map fun st => rowD (rowOf st))) (h3 : m (Str.ofString "rows") = some (.ref ra)) : RwJ sts i m nx
inductive RwK (own : List (Addr × Obj)) (ws : List Wd) (rs : List Dat) (i : Nat) (m : Str → Option Value) (nx : List (Addr × Obj)) : Prop
  | mk (qa ra : Addr) (qits rits : List Value) (kq kr : Nat) (dl : List (Addr × Obj)) (h0 : nx = (qa, W.listOf qits.toArray kq) :: (ra, W.listOf rits.toArray kr) :: (dl ++ own)) (h1 : m (Str.ofString "row") = some (.ref qa)) (h2 : m (Str.ofString "rows") = some (.ref ra)) (h3 : Two own qa ra qits rits dl (((ws.take i).foldl rowStep []).map pairD) rs) : RwK own ws rs i m nx
abbrev tupO (vs : List Value) : Obj := { cls := .type "tuple", data := .seq vs.toArray }
theorem rwk_push {h₀ h9 : Heap} {L : Addr} {m9 : Str → Option Value} {s₁ : Shared} {tk : Nat} {qa ra q : Addr} {kq kr j : Nat} {qits rits vs : List Value} {dl own own2 news9 : List (Addr × Obj)} {ps : List Pair} {pr : Pair} {ds rs : List Dat} {ws : List Wd}
    (F9 : Fr h₀ L h9 m9) (N9 : News h₀ L h9 ((q, tupO vs) :: news9)) (S : Two own qa ra qits rits dl (ps.map pairD) rs)
    (hsub : ∀ p ∈ (qa, W.listOf (qits.toArray.push (.ref q)) (kq + 1)) :: (ra, W.listOf rits.toArray kr) :: (dl ++ (own ++ own2)), p ∈ news9)
    (l1 : @LT.lt Nat _ qa q) (l2 : @LT.lt Nat _ ra q) (l3 : AllLt q (dl ++ (own ++ own2))) (hoff : OwnOff own2 (qa :: ra :: (dl ++ own).map (·.1))) (hd : DatAll [] vs ds) (hpd : pairD pr = .tuple ds) (hps : (ws.take (j + 1)).foldl rowStep [] = ps ++ [pr])
    (hm1 : m9 (Str.ofString "row") = some (.ref qa)) (hm2 : m9 (Str.ofString "rows") = some (.ref ra)) : InvEndG h₀ L (fun m nx => RwK own ws rs (j + 1) m nx) own2 s₁ { s₁ with heap := h9, toks := tk } := by
  obtain ⟨l4, l5⟩ := AllLt.app l3
  obtain ⟨l6, l7⟩ := AllLt.app l5
  have S2 := Two.push (o := tupO vs) (d := pairD pr) S l1 l2 l6 (by rw [hpd]; exact .tuple (n := 0) (.head _) (hd.mono fun p hp => absurd hp (by simp)))
  refine InvEndG.intro (nx := (qa, W.listOf (qits.toArray.push (.ref q)) (kq + 1)) :: (ra, W.listOf rits.toArray kr) :: (((q, tupO vs) :: dl) ++ own)) F9 N9 ⟨qa, ra, qits ++ [.ref q], rits, kq + 1, kr, (q, tupO vs) :: dl, by simp, hm1, hm2, ?_⟩ ?_ ?_ ?_
  · rw [hps, List.map_append]; exact S2
  · intro p hp b hb
    simp only [List.map_cons, List.cons_append, List.mem_cons] at hb
    rcases hb with rfl | rfl | rfl | hb
    · exact hoff p hp _ (by simp)
    · exact hoff p hp _ (by simp)
    · exact (AllLt.ne l7 p hp).symm
    · exact hoff p hp b (.tail _ (.tail _ hb))
  · intro p hp
    simp only [List.mem_cons, List.cons_append, List.mem_append] at hp
    rcases hp with h | h | h | h | h
    · exact .tail _ (hsub p (by simp [h]))
    · exact .tail _ (hsub p (by simp [h]))
    · rw [h]; exact .head _
    · exact .tail _ (hsub p (by simp [h]))
    · exact .tail _ (hsub p (by simp [h]))
  · exact fun p hp => .tail _ (hsub p (by simp [hp]))
theorem rwk_renew {h₀ h9 : Heap} {L : Addr} {m9 : Str → Option Value} {s₁ : Shared} {tk : Nat} {qa ra q D : Addr} {kr j : Nat} {qits its' rits vs : List Value} {dl own own2 news9 : List (Addr × Obj)} {ps ps' : List Pair} {pr : Pair} {ds rs : List Dat} {ws : List Wd}
    (F9 : Fr h₀ L h9 m9) (N9 : News h₀ L h9 ((D, W.listOf (its' ++ [Value.ref q]).toArray 0) :: news9)) (S : Two own qa ra qits rits dl (ps.map pairD) rs) (hit : DatAll dl its' (ps'.map pairD)) (hq : (q, tupO vs) ∈ news9)
    (hsub : ∀ p ∈ (ra, W.listOf rits.toArray kr) :: (dl ++ (own ++ own2)), p ∈ news9)
    (l1 : @LT.lt Nat _ ra D) (l2 : @LT.lt Nat _ ra q) (l3 : AllLt q (dl ++ (own ++ own2))) (l4 : @LT.lt Nat _ q D) (l5 : AllLt D (dl ++ (own ++ own2))) (hoff : OwnOff own2 (qa :: ra :: (dl ++ own).map (·.1))) (hd : DatAll [] vs ds) (hpd : pairD pr = .tuple ds) (hps : (ws.take (j + 1)).foldl rowStep [] = ps' ++ [pr])
    (hm1 : m9 (Str.ofString "row") = some (.ref D)) (hm2 : m9 (Str.ofString "rows") = some (.ref ra)) : InvEndG h₀ L (fun m nx => RwK own ws rs (j + 1) m nx) own2 s₁ { s₁ with heap := h9, toks := tk } := by
  obtain ⟨_, l6⟩ := AllLt.app l3
  obtain ⟨l7, l8⟩ := AllLt.app l6
  obtain ⟨l9, l10⟩ := AllLt.app l5
  obtain ⟨l11, l12⟩ := AllLt.app l10
  have S2 : Two own D ra (its' ++ [Value.ref q]) rits ((q, tupO vs) :: dl) (ps'.map pairD ++ [pairD pr]) rs := by
    refine Two.renew S l1 ⟨l4, l9⟩ l11 (OwnOff.cons (fun b hb => by rw [List.mem_singleton.mp hb]; exact Nat.ne_of_gt l2) (OwnOff.sub S.odl (by simp))) ?_ (fun p hp => .tail _ hp) (DatAll.append (hit.mono fun p hp => .tail _ hp) (DatAll.one ?_))
    · intro p hp b hb
      rcases List.mem_cons.mp hb with rfl | hb
      · exact (AllLt.ne l7 p hp).symm
      · exact S.oo p hp b hb
    · rw [hpd]; exact .tuple (n := 0) (.head _) (hd.mono fun p hp => absurd hp (by simp))
  refine InvEndG.intro (nx := (D, W.listOf (its' ++ [Value.ref q]).toArray 0) :: (ra, W.listOf rits.toArray kr) :: (((q, tupO vs) :: dl) ++ own)) F9 N9 ⟨D, ra, its' ++ [Value.ref q], rits, 0, kr, (q, tupO vs) :: dl, rfl, hm1, hm2, ?_⟩ ?_ ?_ ?_
  · rw [hps, List.map_append]; exact S2
  · intro p hp b hb
    simp only [List.map_cons, List.cons_append, List.mem_cons] at hb
    rcases hb with rfl | rfl | rfl | hb
    · exact (AllLt.ne l12 p hp).symm
    · exact hoff p hp _ (by simp)
    · exact (AllLt.ne l8 p hp).symm
    · exact hoff p hp b (.tail _ (.tail _ hb))
  · intro p hp
    simp only [List.mem_cons, List.cons_append, List.mem_append] at hp
    rcases hp with h | h | h | h | h
    · rw [h]; exact .head _
    · exact .tail _ (hsub p (by simp [h]))
    · rw [h]; exact .tail _ hq
    · exact .tail _ (hsub p (by simp [h]))
    · exact .tail _ (hsub p (by simp [h]))
  · exact fun p hp => .tail _ (hsub p (by simp [hp]))
theorem row_last {dl : List (Addr × Obj)} {qits : List Value} {ps : List Pair} {p : Pair} (h : DatAll dl qits ((ps ++ [p]).map pairD)) : ∃ (its' : List Value) (q : Addr) (n : Nat) (t : Tok) (V : Value), qits = its' ++ [Value.ref q] ∧ DatAll dl its' (ps.map pairD) ∧ (q, ({ cls := .type "tuple", data := .seq [Value.str (sOf p.1) t, V].toArray n } : Obj)) ∈ dl ∧ DatIn dl V (match p.2 with | none => .none | some v => .str (sOf v)) := by
  rw [List.map_append, List.map_cons, List.map_nil] at h
  have hl := DatAll.length h
  obtain ⟨its', lst, rfl⟩ : ∃ its' lst, qits = its' ++ [lst] := by
    rcases List.eq_nil_or_concat qits with rfl | ⟨a, b, e⟩
    · simp at hl
    · exact ⟨a, b, by rw [e, List.concat_eq_append]⟩
  obtain ⟨es, d, e, h1, h2⟩ := DatAll.snoc h
  obtain ⟨rfl, e2⟩ := List.append_inj' e rfl
  have e3 : pairD p = d := by simpa using e2
  subst e3
  unfold pairD at h2
  cases h2 with
  | tuple hm hall =>
    cases hall with
    | cons ha r =>
      cases ha
      cases r with
      | cons hb r =>
        cases r
        exact ⟨its', _, _, _, _, rfl, h1, hm, hb⟩
theorem fold_len : ∀ (ws : List Wd) (ps : List Pair), (ws.foldl rowStep ps).length ≤ ps.length + ws.length
  | [], ps => by simp
  | x :: ws, ps => by
    have h := fold_len ws (rowStep ps x)
    have h2 : (rowStep ps x).length ≤ ps.length + 1 := by
      unfold rowStep
      split
      · simp
      · split <;> simp
    rw [List.foldl_cons, List.length_cons]; lia
theorem words_le (ws : List Wd) (ok : ∀ x ∈ ws, x.Ok) : ws.length ≤ (stTxt ws).length := by
  induction ws with
  | nil => simp
  | cons x ws ih =>
    have e : stTxt (x :: ws) = List.replicate x.n 32 ++ (x.body ++ stTxt ws) := by simp [stTxt, Wd.txt]
    have h1 := ih fun y hy => ok y (.tail _ hy)
    have h2 := List.length_pos_iff.mpr (body_ne (ok x (.head _)))
    rw [e]; simp only [List.length_append, List.length_replicate, List.length_cons]; lia
theorem stretches_le (st0 : List Wd) (more : List (List Wd)) (hok : ∀ s ∈ st0 :: more, StOk s ∧ s ≠ []) : (st0 :: more).length ≤ (stsTxt (st0 :: more)).length := by
  rw [stsTxt_jl]
  generalize st0 :: more = L at *
  induction L with
  | nil => simp
  | cons s L ih =>
    obtain ⟨ok, ne⟩ := hok s (.head _)
    have h1 := words_le s ok.1
    have h2 := List.length_pos_iff.mpr ne
    rw [List.map_cons, jl_cons, List.length_append, List.length_cons]
    have h3 := ih fun t ht => hok t (.tail _ ht)
    split
    · rename_i e
      rw [List.map_eq_nil_iff] at e
      subst e
      simp; lia
    · rw [List.length_cons]; lia
theorem rwj_end {h₀ h9 : Heap} {L : Addr} {m9 : Str → Option Value} {s₁ : Shared} {tk : Nat} {qa ra : Addr} {kq kr i : Nat} {qits rits : List Value} {dl own : List (Addr × Obj)} {ws : List Wd} {sts : List (List Wd)}
    (F9 : Fr h₀ L h9 m9) (N9 : News h₀ L h9 ((qa, W.listOf qits.toArray kq) :: (ra, W.listOf (rits.toArray.push (.ref qa)) (kr + 1)) :: (dl ++ own))) (S : Two own qa ra qits rits dl ((rowOf ws).map pairD) ((sts.take i).map fun st => rowD (rowOf st))) (hws : sts[i]? = some ws)
    (hm : m9 (Str.ofString "rows") = some (.ref ra)) : InvEndG h₀ L (fun m nx => RwJ sts (i + 1) m nx) own s₁ { s₁ with heap := h9, toks := tk } := by
  obtain ⟨ne, odl, oown, oo, dp, dr⟩ := S
  refine InvEndG.intro (nx := (ra, W.listOf (rits.toArray.push (.ref qa)) (kr + 1)) :: (qa, W.listOf qits.toArray kq) :: dl) F9 N9 ⟨ra, rits ++ [Value.ref qa], kr + 1, (qa, W.listOf qits.toArray kq) :: dl, by simp, ?_, ?_, hm⟩ ?_ ?_ ?_
  · exact OwnOff.cons (fun b hb => by rw [List.mem_singleton.mp hb]; exact ne) (OwnOff.sub odl (by simp))
  · rw [List.take_add_one, hws, List.map_append]
    refine DatAll.append (dr.mono fun p hp => .tail _ hp) (DatAll.one ?_)
    exact .list (.head _) (dp.mono fun p hp => .tail _ hp)
  · intro p hp b hb
    simp only [List.map_cons, List.mem_cons] at hb
    rcases hb with rfl | rfl | hb
    · exact oown p hp _ (by simp)
    · exact oown p hp _ (by simp)
    · exact oo p hp b hb
  · intro p hp
    simp only [List.mem_cons, List.mem_append] at hp ⊢
    rcases hp with h | h | h <;> simp [h]
  · intro p hp; simp [hp]
theorem pick_last (its' : List Value) (v : Value) : kms_pick (its' ++ [v]).toArray.toList none (some (-1)) = its' := by
  have e1 : kms_lo none (its' ++ [v]).length = 0 := rfl
  have e2 : kms_hi (some (-1)) (its' ++ [v]).length = its'.length := by
    unfold kms_hi
    simp
  unfold kms_pick
  rw [show (its' ++ [v]).toArray.toList = its' ++ [v] from rfl, e1, e2, List.drop_zero, Nat.sub_zero, List.take_left' rfl]
end Mine
end
section
open PySem PySem.W PySem.Spec PySem.Calls PyProof.Rows
set_option maxRecDepth 100000
namespace Mine
/-- what the rebuilding machine holds: the figures under way, the innermost open row, the rows outside it (the innermost first) -/
structure RSt where
  figs : Option (List Nat)
  cur : List Dat
  outs : List (List Dat)
/-- the octets that are read from figures -/
def decF (al : Array UInt8) (f : List Nat) : Array UInt8 := byteArr ((KBw.bInts (trBy (trTab al #[43, 47]) ((sOf f).cps.map (·.toUInt8)))).foldl decStep (0, 0, [])).2.2
inductive RStep (dec : List Nat → Array UInt8 → Prop) : RSt → Nat → RSt → Prop
  | beg {cur : List Dat} {outs : List (List Dat)} : RStep dec ⟨none, cur, outs⟩ 39 ⟨some [], cur, outs⟩
  | fin {f : List Nat} {b : Array UInt8} {cur : List Dat} {outs : List (List Dat)} (h : dec f b) : RStep dec ⟨some f, cur, outs⟩ 39 ⟨none, cur ++ [.bytes b], outs⟩
  | fig {f : List Nat} {c : Nat} {cur : List Dat} {outs : List (List Dat)} (h : c ≠ 39) : RStep dec ⟨some f, cur, outs⟩ c ⟨some (f ++ [c]), cur, outs⟩
  | opn {c : Nat} {cur : List Dat} {outs : List (List Dat)} (h : c = 91 ∨ c = 40) : RStep dec ⟨none, cur, outs⟩ c ⟨none, [], cur :: outs⟩
  | lst {cur o : List Dat} {outs : List (List Dat)} : RStep dec ⟨none, cur, o :: outs⟩ 93 ⟨none, o ++ [.list cur], outs⟩
  | tup {cur o : List Dat} {outs : List (List Dat)} : RStep dec ⟨none, cur, o :: outs⟩ 41 ⟨none, o ++ [.tuple cur], outs⟩
inductive RRun (dec : List Nat → Array UInt8 → Prop) : RSt → List Nat → RSt → Prop
  | nil {a : RSt} : RRun dec a [] a
  | cons {a b c : RSt} {x : Nat} {l : List Nat} (h : RStep dec a x b) (r : RRun dec b l c) : RRun dec a (x :: l) c
theorem RRun.app {dec : List Nat → Array UInt8 → Prop} {a b c : RSt} {l k : List Nat} (x : RRun dec a l b) (y : RRun dec b k c) : RRun dec a (l ++ k) c := by
  induction x with
  | nil => exact y
  | cons h r ih => exact .cons h (ih y)
theorem RRun.split {dec : List Nat → Array UInt8 → Prop} : ∀ {l k : List Nat} {a c : RSt}, RRun dec a (l ++ k) c → ∃ b, RRun dec a l b ∧ RRun dec b k c
  | [], k, a, c, h => ⟨a, .nil, h⟩
  | x :: l, k, a, c, h => by
    cases h with
    | cons h r => obtain ⟨b, h1, h2⟩ := RRun.split r; exact ⟨b, .cons h h1, h2⟩
/-- the open rows outside the innermost one -/
inductive Outs (tl : List (Addr × Obj)) : List (Addr × Obj) → List Value → List (List Dat) → Prop
  | nil : Outs tl [] [] []
  | up {ofs : List (Addr × Obj)} {refs vs : List Value} {a : Addr} {k : Nat} {ds : List Dat} {outs : List (List Dat)} (c : Outs tl ofs refs outs) (hd : DatAll tl vs ds) : Outs tl ((a, W.listOf vs.toArray k) :: ofs) (refs ++ [Value.ref a]) (ds :: outs)
theorem Outs.mono {tl tl' ofs : List (Addr × Obj)} {refs : List Value} {outs : List (List Dat)} (c : Outs tl ofs refs outs) (h : ∀ p ∈ tl, p ∈ tl') : Outs tl' ofs refs outs := by
  induction c with
  | nil => exact .nil
  | up c hd ih => exact .up ih (hd.mono h)
theorem Outs.len {tl ofs : List (Addr × Obj)} {refs : List Value} {outs : List (List Dat)} (c : Outs tl ofs refs outs) : refs.length = outs.length := by
  induction c with
  | nil => rfl
  | up c hd ih => rw [List.length_append, ih]; rfl
structure RebS (op am : Addr) (ofs tl own : List (Addr × Obj)) (refs vsm : List Value) (cur : List Dat) (outs : List (List Dat)) : Prop where
  ch : Outs tl ofs refs outs
  dm : DatAll tl vsm cur
  nd : (op :: am :: ofs.map (·.1)).Nodup
  otl : OwnOff tl (op :: am :: ofs.map (·.1))
  oown : OwnOff own (op :: am :: ofs.map (·.1))
  ot : OwnOff own (tl.map (·.1))
variable {op am q : Addr} {ofs tl own own' : List (Addr × Obj)} {refs vsm : List Value} {cur : List Dat} {outs : List (List Dat)} {k : Nat}
theorem RebS.lessown (S : RebS op am ofs tl own refs vsm cur outs) (h : ∀ p ∈ own', p ∈ own) : RebS op am ofs tl own' refs vsm cur outs := by
  obtain ⟨ch, dm, nd, otl, oown, ot⟩ := S
  exact ⟨ch, dm, nd, otl, fun p hp => oown p (h p hp), fun p hp => ot p (h p hp)⟩
theorem RebS.moreown (S : RebS op am ofs tl own refs vsm cur outs) (h : OwnOff own' (op :: am :: (ofs ++ tl).map (·.1))) : RebS op am ofs tl (own ++ own') refs vsm cur outs := by
  obtain ⟨ch, dm, nd, otl, oown, ot⟩ := S
  rw [List.map_append] at h
  exact ⟨ch, dm, nd, otl, OwnOff.app oown (OwnOff.sub h (by intro b hb; simp only [List.mem_cons, List.mem_append] at hb ⊢; rcases hb with h | h | h <;> simp [h])), OwnOff.app ot (OwnOff.sub h (by intro b hb; simp only [List.mem_cons, List.mem_append]; exact .inr (.inr (.inr hb))))⟩
theorem RebS.leaf (S : RebS op am ofs tl own refs vsm cur outs) {b : Array UInt8} {t : Tok} : RebS op am ofs tl own refs (vsm ++ [Value.bytes b t]) (cur ++ [.bytes b]) outs := by
  obtain ⟨ch, dm, nd, otl, oown, ot⟩ := S
  exact ⟨ch, DatAll.append dm (DatAll.one (.bytes b t)), nd, otl, oown, ot⟩
theorem RebS.opn (S : RebS op am ofs tl own refs vsm cur outs) (l1 : @LT.lt Nat _ op q) (l2 : @LT.lt Nat _ am q) (l4 : AllLt q (ofs ++ tl ++ own)) : RebS op q ((am, W.listOf vsm.toArray k) :: ofs) tl own (refs ++ [Value.ref am]) [] [] (cur :: outs) := by
  obtain ⟨ch, dm, nd, otl, oown, ot⟩ := S
  obtain ⟨l5, l6⟩ := AllLt.app l4
  obtain ⟨l7, l8⟩ := AllLt.app l5
  refine ⟨.up ch dm, .nil, ?_, ?_, ?_, ot⟩
  · simp only [List.map_cons, List.nodup_cons, List.mem_cons, not_or] at nd ⊢
    obtain ⟨⟨n1, n2⟩, n3, n4⟩ := nd
    refine ⟨⟨Nat.ne_of_lt l1, n1, n2⟩, ⟨Nat.ne_of_gt l2, ?_⟩, n3, n4⟩
    intro hm
    obtain ⟨p, hp, e⟩ := List.mem_map.mp hm
    exact AllLt.ne l7 p hp e.symm
  · intro p hp x hx
    simp only [List.map_cons, List.mem_cons] at hx
    rcases hx with rfl | rfl | rfl | hx
    · exact otl p hp _ (by simp)
    · exact (AllLt.ne l8 p hp).symm
    · exact otl p hp _ (by simp)
    · exact otl p hp x (by simp only [List.mem_cons]; exact .inr (.inr hx))
  · intro p hp x hx
    simp only [List.map_cons, List.mem_cons] at hx
    rcases hx with rfl | rfl | rfl | hx
    · exact oown p hp _ (by simp)
    · exact (AllLt.ne l6 p hp).symm
    · exact oown p hp _ (by simp)
    · exact oown p hp x (by simp only [List.mem_cons]; exact .inr (.inr hx))
/-- a closed row `d` at `q` (the list itself, or its tuple) goes into the row outside -/
theorem RebS.pop {ob : Obj} {o : List Dat} {d : Dat} (S : RebS op am ofs tl own refs vsm cur (o :: outs)) (hq : OwnOff own [q]) (hqo : @Ne Nat q op ∧ ∀ x ∈ ofs.map (·.1), @Ne Nat q x) (hd : DatIn ((q, ob) :: tl) (.ref q) d) :
    ∃ a vs k ofs' refs', ofs = (a, W.listOf vs.toArray k) :: ofs' ∧ refs = refs' ++ [Value.ref a] ∧ RebS op a ofs' ((q, ob) :: tl) own refs' (vs ++ [.ref q]) (o ++ [d]) outs := by
  obtain ⟨ch, dm, nd, otl, oown, ot⟩ := S
  cases ch with
  | up c hdv =>
    rename_i ofs' refs' vs a k'
    refine ⟨a, vs, k', ofs', refs', rfl, rfl, ⟨c.mono fun p hp => .tail _ hp, DatAll.append (hdv.mono fun p hp => .tail _ hp) (DatAll.one hd), ?_, ?_, ?_, ?_⟩⟩
    · simp only [List.map_cons, List.nodup_cons, List.mem_cons, not_or] at nd ⊢
      obtain ⟨⟨n1, n2, n3⟩, ⟨n4, n5⟩, n6, n7⟩ := nd
      exact ⟨⟨n2, n3⟩, n6, n7⟩
    · intro p hp x hx
      simp only [List.mem_cons] at hx
      rcases List.mem_cons.mp hp with rfl | hp
      · rcases hx with rfl | rfl | hx
        · exact hqo.1
        · exact hqo.2 _ (by simp)
        · exact hqo.2 _ (by simp only [List.map_cons, List.mem_cons]; exact .inr hx)
      · rcases hx with rfl | rfl | hx
        · exact otl p hp _ (by simp)
        · exact otl p hp _ (by simp)
        · exact otl p hp x (by simp only [List.map_cons, List.mem_cons]; exact .inr (.inr (.inr hx)))
    · intro p hp x hx
      simp only [List.mem_cons] at hx
      rcases hx with rfl | rfl | hx
      · exact oown p hp _ (by simp)
      · exact oown p hp _ (by simp)
      · exact oown p hp x (by simp only [List.map_cons, List.mem_cons]; exact .inr (.inr (.inr hx)))
    · intro p hp x hx
      simp only [List.map_cons, List.mem_cons] at hx
      rcases hx with rfl | hx
      · exact hq p hp _ (by simp)
      · exact ot p hp x hx
end Mine
end
section
open PySem PySem.W PySem.Spec PySem.Calls PyProof.Rows
set_option maxRecDepth 100000
namespace Mine
def RSt.sz (a : RSt) : Nat := (match a.figs with | none => 0 | some f => f.length) + a.cur.length + (a.outs.map List.length).sum + a.outs.length
theorem RSt.cur_le (a : RSt) : a.cur.length ≤ a.sz := by unfold RSt.sz; lia
theorem RSt.outs_le (a : RSt) : a.outs.length ≤ a.sz := by unfold RSt.sz; lia
theorem RSt.fig_le {f : List Nat} {cur : List Dat} {outs : List (List Dat)} : f.length ≤ (⟨some f, cur, outs⟩ : RSt).sz := by simp only [RSt.sz]; lia
theorem RSt.top_le {g : Option (List Nat)} {cur o : List Dat} {outs : List (List Dat)} : o.length ≤ (⟨g, cur, o :: outs⟩ : RSt).sz := by simp only [RSt.sz, List.map_cons, List.sum_cons]; lia
theorem RStep.sz {dec : List Nat → Array UInt8 → Prop} {a b : RSt} {c : Nat} (h : RStep dec a c b) : b.sz ≤ a.sz + 1 := by
  cases h <;> simp [RSt.sz] <;> lia
def FigOk (al : Array UInt8) (f : List Nat) (b : Array UInt8) : Prop :=
  (∀ c ∈ (sOf f).cps.toList, c < 128) ∧ ∃ cs p, Padded (KBw.bInts (trBy (trTab al #[43, 47]) ((sOf f).cps.map (·.toUInt8)))) cs p ∧ b = byteArr (cs.foldl decStep (0, 0, [])).2.2
def pairTxt (p : Pair) : List Nat := p.1 ++ (match p.2 with | none => [] | some v => 61 :: v)
def rowTxt (ps : List Pair) : List Nat := ps.flatMap pairTxt
def figV (v : Value) : Option (List Nat) → Prop
  | none => v = .none
  | some f => ∃ t, v = .str (sOf f) t
inductive RebJ (al : Array UInt8) (u : Tok) (stE : RSt) (base : List (Addr × Obj)) (rest : List Nat) (m : Str → Option Value) (nx : List (Addr × Obj)) : Prop
  | mk (op am : Addr) (kop km : Nat) (ofs tl : List (Addr × Obj)) (refs vsm : List Value) (st : RSt) (fv : Value) (h0 : nx = (op, W.listOf (refs ++ [Value.ref am]).toArray kop) :: (am, W.listOf vsm.toArray km) :: (ofs ++ (tl ++ base))) (h1 : m (Str.ofString "opened") = some (.ref op)) (h2 : m (Str.ofString "figures") = some fv) (h3 : m (Str.ofString "altchars") = some (.bytes al u)) (h4 : figV fv st.figs) (h5 : RebS op am ofs tl base refs vsm st.cur st.outs) (h6 : RRun (FigOk al) st rest stE) (h7 : st.sz + rest.length ≤ 16000) : RebJ al u stE base rest m nx
theorem RebJ_end {al : Array UInt8} {u : Tok} {stE : RSt} {h₀ h9 : Heap} {L op am : Addr} {m9 : Str → Option Value} {news9 ofs tl base own : List (Addr × Obj)} {s : Shared} {tk kop km : Nat} {refs vsm : List Value} {st : RSt} {fv : Value} {rest : List Nat}
    (F9 : Fr h₀ L h9 m9) (N9 : News h₀ L h9 news9) (S : RebS op am ofs tl (base ++ own) refs vsm st.cur st.outs) (hop : m9 (Str.ofString "opened") = some (.ref op)) (hfi : m9 (Str.ofString "figures") = some fv) (hal : m9 (Str.ofString "altchars") = some (.bytes al u))
    (hv : figV fv st.figs) (hr : RRun (FigOk al) st rest stE) (hz : st.sz + rest.length ≤ 16000) (hoff : OwnOff own (base.map (·.1)))
    (h1 : (op, W.listOf (refs ++ [Value.ref am]).toArray kop) ∈ news9) (h2 : (am, W.listOf vsm.toArray km) ∈ news9) (h4 : ∀ p ∈ ofs ++ (tl ++ (base ++ own)), p ∈ news9) :
    InvEndG h₀ L (fun m nx => RebJ al u stE base rest m nx) own s { s with heap := h9, toks := tk } := by
  refine InvEndG.intro (nx := (op, W.listOf (refs ++ [Value.ref am]).toArray kop) :: (am, W.listOf vsm.toArray km) :: (ofs ++ (tl ++ base))) F9 N9 ⟨op, am, kop, km, ofs, tl, refs, vsm, st, fv, rfl, hop, hfi, hal, hv, S.lessown (fun p hp => List.mem_append.mpr (.inl hp)), hr, hz⟩ ?_ ?_ fun p hp => h4 p (by simp [hp])
  · intro p hp x hx
    have hp' : p ∈ base ++ own := List.mem_append.mpr (.inr hp)
    simp only [List.map_cons, List.map_append, List.mem_cons, List.mem_append] at hx
    rcases hx with h | h | h | h | h
    · exact S.oown p hp' x (by simp [h])
    · exact S.oown p hp' x (by simp [h])
    · exact S.oown p hp' x (by simp only [List.mem_cons]; exact .inr (.inr h))
    · exact S.ot p hp' x h
    · exact hoff p hp x h
  · intro p hp
    simp only [List.mem_cons, List.mem_append] at hp
    rcases hp with h | h | h | h | h
    · rw [h]; exact h1
    · rw [h]; exact h2
    · exact h4 p (by simp [h])
    · exact h4 p (by simp [h])
    · exact h4 p (by simp [h])
end Mine
end
section
open PySem PySem.W PySem.Spec PySem.Calls PyProof.Rows
set_option maxRecDepth 100000
namespace Mine
/-- a sign that may stand anywhere in a word -/
def wC (c : Nat) : Bool := tokP c && (c != 34 && decide (c < 128))
def sgn (c : Nat) : Bool := c != 44 && c != 32
theorem wC_tok {c : Nat} (h : wC c = true) : tokP c = true := by unfold wC at h; simp only [Bool.and_eq_true] at h; exact h.1
theorem wC_34 {c : Nat} (h : wC c = true) : c ≠ 34 := by unfold wC at h; simp only [Bool.and_eq_true, bne_iff_ne] at h; exact h.2.1
theorem wC_lt {c : Nat} (h : wC c = true) : c < 128 := by unfold wC at h; simp only [Bool.and_eq_true, decide_eq_true_eq] at h; exact h.2.2
theorem tok_val {c : Nat} (a : tokP c = true) : valP c = true := by
  have h1 : (c == 59) = false := beq_eq_false_iff_ne.mpr fun e => by rw [e, tk59] at a; cases a
  have h2 : (c == 44) = false := beq_eq_false_iff_ne.mpr fun e => by rw [e, tk44] at a; cases a
  unfold valP
  rw [tokP_sp a, h1, h2]; rfl
theorem wC_sgn {c : Nat} (h : wC c = true) : sgn c = true := by
  have a := wC_tok h
  unfold sgn
  simp only [Bool.and_eq_true, bne_iff_ne]
  refine ⟨fun e => ?_, fun e => ?_⟩
  · rw [e, tk44] at a; cases a
  · rw [e, tk32] at a; cases a
theorem wC_61 {c : Nat} (h : wC c = true) : c ≠ 61 := fun e => by have a := wC_tok h; rw [e, tk61] at a; cases a
/-- the words' machine: 2 a word is wanted, 1 within a word, 0 behind a comma -/
inductive Au : Nat → Nat → Nat → Prop
  | w {q c : Nat} (h : wC c = true) : Au q c 1
  | eq : Au 1 61 1
  | com : Au 1 44 0
  | bl : Au 0 32 2
inductive Aus : Nat → List Nat → Nat → Prop
  | nil {q : Nat} : Aus q [] q
  | cons {q c m r : Nat} {l : List Nat} (h : Au q c m) (t : Aus m l r) : Aus q (c :: l) r
theorem Aus.app {q m r : Nat} {a b : List Nat} (x : Aus q a m) (y : Aus m b r) : Aus q (a ++ b) r := by
  induction x with
  | nil => exact y
  | cons h t ih => exact .cons h (ih y)
theorem Aus.split : ∀ {a b : List Nat} {q r : Nat}, Aus q (a ++ b) r → ∃ m, Aus q a m ∧ Aus m b r
  | [], _, q, _, h => ⟨q, .nil, h⟩
  | c :: a, b, q, r, h => by
    cases h with
    | cons h t => obtain ⟨m, x, y⟩ := Aus.split t; exact ⟨m, .cons h x, y⟩
theorem Aus.no34 {q r : Nat} {l : List Nat} (x : Aus q l r) : ∀ c ∈ l, c ≠ 34 := by
  induction x with
  | nil => intro c h; cases h
  | cons h t ih =>
    intro c hc
    rcases List.mem_cons.mp hc with rfl | hc
    · cases h with
      | w h => exact wC_34 h
      | eq => decide
      | com => decide
      | bl => decide
    · exact ih c hc
def Wd.push (x : Wd) (c : Nat) : Wd :=
  match x.val with
  | none => if c = 61 then ⟨x.n, x.key, some []⟩ else ⟨x.n, x.key ++ [c], none⟩
  | some v => ⟨x.n, x.key, some (v ++ [c])⟩
theorem push_body (x : Wd) (c : Nat) : (x.push c).body = x.body ++ [c] := by
  obtain ⟨n, k, v⟩ := x
  unfold Wd.push Wd.body
  cases v with
  | none =>
    by_cases h : c = 61
    · simp [h]
    · simp [h]
  | some v => simp
theorem push_txt (x : Wd) (c : Nat) : (x.push c).txt = x.txt ++ [c] := by
  have e : (x.push c).n = x.n := by
    obtain ⟨n, k, v⟩ := x
    unfold Wd.push
    cases v with
    | none => by_cases h : c = 61 <;> simp [h]
    | some v => rfl
  unfold Wd.txt
  rw [push_body, e, List.append_assoc]
structure WOk (x : Wd) : Prop where
  ok : x.Ok
  lt : WdL x
theorem WOk.push {x : Wd} {c : Nat} (h : WOk x) (hc : wC c = true ∨ c = 61) : WOk (x.push c) := by
  obtain ⟨⟨ne, key, val⟩, lt⟩ := h
  refine ⟨?_, ?_⟩
  · obtain ⟨n, k, v⟩ := x
    unfold Wd.push
    cases v with
    | none =>
      by_cases h : c = 61
      · simp only [h, if_true]
        exact ⟨ne, key, fun v hv c hc => by cases hv; cases hc⟩
      · simp only [h, if_false]
        have hc := hc.resolve_right h
        refine ⟨by simp, ?_, fun v hv => by cases hv⟩
        intro d hd
        rcases List.mem_append.mp hd with hd | hd
        · exact key d hd
        · rw [List.mem_singleton.mp hd]; exact ⟨wC_tok hc, wC_34 hc⟩
    | some v =>
      refine ⟨ne, key, ?_⟩
      intro v' hv' d hd
      cases hv'
      rcases List.mem_append.mp hd with hd | hd
      · exact val v rfl d hd
      · rw [List.mem_singleton.mp hd]
        rcases hc with hc | rfl
        · exact ⟨tok_val (wC_tok hc), wC_34 hc⟩
        · exact ⟨vl61, by decide⟩
  · intro d hd
    rw [push_body] at hd
    rcases List.mem_append.mp hd with hd | hd
    · exact lt d hd
    · rw [List.mem_singleton.mp hd, decide_eq_true_eq]
      rcases hc with hc | rfl
      · exact wC_lt hc
      · decide
theorem WOk.one {n c : Nat} (hc : wC c = true) : WOk ⟨n, [c], none⟩ := by
  refine ⟨⟨by simp, ?_, fun v hv => by cases hv⟩, ?_⟩
  · intro d hd
    rw [List.mem_singleton.mp hd]; exact ⟨wC_tok hc, wC_34 hc⟩
  · intro d hd
    have hd : d ∈ ([c] : List Nat) := by unfold Wd.body at hd; simpa using hd
    rw [List.mem_singleton.mp hd, decide_eq_true_eq]; exact wC_lt hc
theorem stsTxt_snoc : ∀ (sts : List (List Wd)) (st : List Wd), sts ≠ [] → stsTxt (sts ++ [st]) = stsTxt sts ++ 44 :: stTxt st
  | [], _, h => absurd rfl h
  | s :: more, st, _ => by
    show tlTxt s (more ++ [st]) = tlTxt s more ++ 44 :: stTxt st
    simp [tlTxt, moreTxt]
theorem stsTxt_one (st : List Wd) : stsTxt [st] = stTxt st := by
  show tlTxt st [] = _
  simp [tlTxt, moreTxt]
theorem stTxt_app (a b : List Wd) : stTxt (a ++ b) = stTxt a ++ stTxt b := by simp [stTxt]
theorem stTxt_one (x : Wd) : stTxt [x] = x.txt := by simp [stTxt]
theorem stsTxt_last (sts : List (List Wd)) (a b : List Wd) : stsTxt (sts ++ [a ++ b]) = stsTxt (sts ++ [a]) ++ stTxt b := by
  cases sts with
  | nil => rw [List.nil_append, List.nil_append, stsTxt_one, stsTxt_one, stTxt_app]
  | cons s r => rw [stsTxt_snoc _ _ (by simp), stsTxt_snoc _ _ (by simp), stTxt_app]; simp
def ones (ws : List Wd) : List (List Wd) := ws.map fun x => [x]
theorem ones_snoc (ws : List Wd) (x : Wd) : ones (ws ++ [x]) = ones ws ++ [[x]] := by simp [ones]
structure WsOk (ws : List Wd) (l : List Nat) : Prop where
  ne : ws ≠ []
  ok : ∀ x ∈ ws, WOk x
  txt : stsTxt (ones ws) = l
  flt : ws.flatMap Wd.body = l.filter sgn
theorem WsOk.push {ws : List Wd} {l : List Nat} {c : Nat} (h : WsOk ws l) (hc : wC c = true ∨ c = 61) : ∃ ws', WsOk ws' (l ++ [c]) := by
  obtain ⟨ne, ok, txt, flt⟩ := h
  obtain ⟨pre, x, rfl⟩ : ∃ pre x, ws = pre ++ [x] := ⟨ws.dropLast, ws.getLast ne, (List.dropLast_concat_getLast ne).symm⟩
  refine ⟨pre ++ [x.push c], by simp, ?_, ?_, ?_⟩
  · intro y hy
    rcases List.mem_append.mp hy with hy | hy
    · exact ok y (List.mem_append.mpr (.inl hy))
    · rw [List.mem_singleton.mp hy]; exact (ok x (by simp)).push hc
  · rw [← txt, ones_snoc, ones_snoc]
    cases h : ones pre with
    | nil => rw [List.nil_append, List.nil_append, stsTxt_one, stsTxt_one, stTxt_one, stTxt_one, push_txt]
    | cons s r => rw [stsTxt_snoc _ _ (by simp), stsTxt_snoc _ _ (by simp), stTxt_one, stTxt_one, push_txt]; simp
  · have hs : sgn c = true := by
      rcases hc with hc | rfl
      · exact wC_sgn hc
      · decide
    rw [List.filter_append, ← flt, List.flatMap_append, List.flatMap_append]
    simp [push_body, hs]
theorem WsOk.more {ws : List Wd} {l : List Nat} {n c : Nat} (h : WsOk ws l) (hc : wC c = true) : WsOk (ws ++ [⟨n, [c], none⟩]) (l ++ (44 :: (List.replicate n 32 ++ [c]))) := by
  obtain ⟨ne, ok, txt, flt⟩ := h
  refine ⟨by simp, ?_, ?_, ?_⟩
  · intro y hy
    rcases List.mem_append.mp hy with hy | hy
    · exact ok y hy
    · rw [List.mem_singleton.mp hy]; exact WOk.one hc
  · rw [ones_snoc, stsTxt_snoc _ _ (by simpa [ones] using ne), txt, stTxt_one]
    simp [Wd.txt, Wd.body]
  · rw [List.filter_append, ← flt, List.flatMap_append]
    have e : (44 :: (List.replicate n 32 ++ [c])).filter sgn = [c] := by
      rw [List.filter_cons, if_neg (by decide), List.filter_append, List.filter_replicate, if_neg (by decide), List.nil_append, List.filter_cons, if_pos (wC_sgn hc), List.filter_nil]
    rw [e]
    simp [Wd.body]
inductive PS : Nat → List Nat → Prop
  | ini : PS 2 []
  | wrd {ws : List Wd} {l : List Nat} (h : WsOk ws l) : PS 1 l
  | com {ws : List Wd} {l : List Nat} (h : WsOk ws l) : PS 0 (l ++ [44])
  | bl {ws : List Wd} {l : List Nat} (h : WsOk ws l) : PS 2 (l ++ [44, 32])
theorem PS.step {q m c : Nat} {l : List Nat} (p : PS q l) (a : Au q c m) : PS m (l ++ [c]) := by
  cases a with
  | w hc =>
    cases p with
    | ini =>
      refine .wrd (ws := [⟨0, [c], none⟩]) ⟨by simp, ?_, ?_, ?_⟩
      · intro y hy; rw [List.mem_singleton.mp hy]; exact WOk.one hc
      · rw [show ones [(⟨0, [c], none⟩ : Wd)] = [[⟨0, [c], none⟩]] from rfl, stsTxt_one, stTxt_one]; simp [Wd.txt, Wd.body]
      · simp [Wd.body, wC_sgn hc]
    | wrd h => obtain ⟨ws', h'⟩ := h.push (.inl hc); exact .wrd h'
    | com h =>
      have := h.more (n := 0) hc
      rw [List.append_assoc]; exact .wrd this
    | bl h =>
      have := h.more (n := 1) hc
      rw [List.append_assoc]; exact .wrd this
  | eq =>
    cases p with
    | wrd h => obtain ⟨ws', h'⟩ := h.push (.inr rfl); exact .wrd h'
  | com =>
    cases p with
    | wrd h => exact .com h
  | bl =>
    cases p with
    | com h => rw [List.append_assoc]; exact .bl h
theorem PS.run {q r : Nat} {l : List Nat} (x : Aus q l r) : ∀ {pre : List Nat}, PS q pre → PS r (pre ++ l) := by
  induction x with
  | nil => intro pre p; rw [List.append_nil]; exact p
  | cons h t ih =>
    intro pre p
    have := ih (p.step h)
    rw [List.append_assoc] at this; exact this
/-- stretches of words that serve both readers -/
structure StG (sts : List (List Wd)) (l : List Nat) : Prop where
  ne : sts ≠ []
  ok : ∀ s ∈ sts, StOk s ∧ s ≠ []
  wl : ∀ s ∈ sts, ∀ x ∈ s, WdL x
  txt : stsTxt sts = l
theorem WsOk.stg {ws : List Wd} {l : List Nat} (h : WsOk ws l) : StG (ones ws) l := by
  refine ⟨by simpa [ones] using h.ne, ?_, ?_, h.txt⟩
  · intro s hs
    obtain ⟨x, hx, rfl⟩ := List.mem_map.mp hs
    exact ⟨⟨fun y hy => by rw [List.mem_singleton.mp hy]; exact (h.ok x hx).ok, fun y hy => nomatch hy⟩, by simp⟩
  · intro s hs
    obtain ⟨x, hx, rfl⟩ := List.mem_map.mp hs
    exact fun y hy => by rw [List.mem_singleton.mp hy]; exact (h.ok x hx).lt
theorem WsOk.rows {ws : List Wd} {l : List Nat} (h : WsOk ws l) : ((ones ws).map rowOf).flatMap rowTxt = l.filter sgn := by
  rw [← h.flt]
  clear h
  induction ws with
  | nil => rfl
  | cons x ws ih =>
    have e : rowTxt (rowOf [x]) = x.body := by
      obtain ⟨n, k, v⟩ := x
      cases v <;> simp [rowOf, rowTxt, pairTxt, Wd.body]
    show rowTxt (rowOf [x]) ++ ((ones ws).map rowOf).flatMap rowTxt = _
    rw [ih, e, List.flatMap_cons]
def truncW (n : Nat) : Wd := ⟨n, [91, 116, 114, 117, 110, 99, 97, 116, 101, 100, 93, 46, 46, 46], none⟩
theorem truncW_ok (n : Nat) : WOk (truncW n) := by
  refine ⟨⟨by simp [truncW], ?_, fun v hv => by cases hv⟩, ?_⟩
  · have : ∀ c ∈ (truncW 0).key, tokP c = true ∧ c ≠ 34 := by decide +kernel
    exact this
  · have : ∀ c ∈ (truncW 0).body, decide (c < 128) = true := by decide +kernel
    exact this
theorem StG.snoc {sts : List (List Wd)} {l : List Nat} {x : Wd} (h : StG sts l) (hx : WOk x) : StG (sts ++ [[x]]) (l ++ 44 :: x.txt) := by
  obtain ⟨ne, ok, wl, txt⟩ := h
  refine ⟨by simp, ?_, ?_, by rw [stsTxt_snoc _ _ ne, txt, stTxt_one]⟩
  · intro s hs
    rcases List.mem_append.mp hs with hs | hs
    · exact ok s hs
    · rw [List.mem_singleton.mp hs]
      exact ⟨⟨fun y hy => by rw [List.mem_singleton.mp hy]; exact hx.ok, fun y hy => nomatch hy⟩, by simp⟩
  · intro s hs
    rcases List.mem_append.mp hs with hs | hs
    · exact wl s hs
    · rw [List.mem_singleton.mp hs]
      exact fun y hy => by rw [List.mem_singleton.mp hy]; exact hx.lt
theorem WsOk.two {ws : List Wd} {l : List Nat} {y : Wd} (h : WsOk ws l) (hy : WOk y) (hn : 1 ≤ y.n) : ∃ sts, StG sts (l ++ y.txt) := by
  obtain ⟨ne, ok, txt, flt⟩ := h
  obtain ⟨pre, x, rfl⟩ : ∃ pre x, ws = pre ++ [x] := ⟨ws.dropLast, ws.getLast ne, (List.dropLast_concat_getLast ne).symm⟩
  refine ⟨ones pre ++ [[x] ++ [y]], by simp, ?_, ?_, by rw [stsTxt_last, ← txt, ones_snoc, stTxt_one]⟩
  · intro s hs
    rcases List.mem_append.mp hs with hs | hs
    · obtain ⟨z, hz, rfl⟩ := List.mem_map.mp hs
      exact ⟨⟨fun y hy => by rw [List.mem_singleton.mp hy]; exact (ok z (by simp [hz])).ok, fun y hy => nomatch hy⟩, by simp⟩
    · rw [List.mem_singleton.mp hs]
      refine ⟨⟨fun z hz => ?_, fun z hz => ?_⟩, by simp⟩
      · rcases List.mem_append.mp hz with hz | hz
        · rw [List.mem_singleton.mp hz]; exact (ok x (by simp)).ok
        · rw [List.mem_singleton.mp hz]; exact hy.ok
      · have hz : z ∈ [y] := hz
        rw [List.mem_singleton.mp hz]; exact hn
  · intro s hs
    rcases List.mem_append.mp hs with hs | hs
    · obtain ⟨z, hz, rfl⟩ := List.mem_map.mp hs
      exact fun y hy => by rw [List.mem_singleton.mp hy]; exact (ok z (by simp [hz])).lt
    · rw [List.mem_singleton.mp hs]
      intro z hz
      rcases List.mem_append.mp hz with hz | hz
      · rw [List.mem_singleton.mp hz]; exact (ok x (by simp)).lt
      · rw [List.mem_singleton.mp hz]; exact hy.lt
theorem PS.trunc {q : Nat} {l : List Nat} (p : PS q l) (hl : l ≠ []) : ∃ sts, StG sts (l ++ truncT) := by
  cases p with
  | ini => exact absurd rfl hl
  | wrd h =>
    obtain ⟨sts, g⟩ := h.two (truncW_ok 1) (Nat.le_refl _)
    exact ⟨sts, g⟩
  | com h =>
    have := h.stg.snoc (truncW_ok 1)
    exact ⟨_, by rw [List.append_assoc]; exact this⟩
  | bl h =>
    have := h.stg.snoc (truncW_ok 2)
    exact ⟨_, by rw [List.append_assoc]; exact this⟩
end Mine
end
section
open PySem PySem.W PySem.Spec PySem.Calls PyProof.Rows
set_option maxRecDepth 100000
namespace Mine
theorem encT_w {al : Array UInt8} {sg : Str} (hp : Pr al sg) {b : Array UInt8} (hb : b.size ≤ 5) : ∀ c ∈ encT al b, (wC c || c == 61) = true :=
  encT_all (by decide +kernel) (by decide +kernel) (by decide +kernel) hp hb
theorem Aus.inw : ∀ {l : List Nat}, (∀ c ∈ l, (wC c || c == 61) = true) → Aus 1 l 1
  | [], _ => .nil
  | c :: l, h => by
    have hc := h c (.head _)
    rw [Bool.or_eq_true, beq_iff_eq] at hc
    have ih := Aus.inw fun x hx => h x (.tail _ hx)
    rcases hc with hc | rfl
    · exact .cons (.w hc) ih
    · exact .cons .eq ih
theorem w39 : wC 39 = true := by decide +kernel
theorem w40 : wC 40 = true := by decide +kernel
theorem w41 : wC 41 = true := by decide +kernel
theorem w91 : wC 91 = true := by decide +kernel
theorem w93 : wC 93 = true := by decide +kernel
theorem Aus.one {q c : Nat} (h : wC c = true) : Aus q [c] 1 := .cons (.w h) .nil
theorem Aus.joins : ∀ (x : List Nat) (r : List (List Nat)), (∀ z ∈ x :: r, ∀ q, Aus q z 1) → ∀ q, Aus q (joinT (x :: r)) 1
  | x, [], h, q => h x (.head _) q
  | x, y :: r, h, q => by
    rw [joinT]
    exact (h x (.head _) q).app (.cons .com (.cons .bl (Aus.joins y r (fun z hz => h z (.tail _ hz)) 2)))
theorem Aus.join {xs : List (List Nat)} (h : ∀ x ∈ xs, ∀ q, Aus q x 1) : Aus 1 (joinT xs) 1 := by
  cases xs with
  | nil => exact .nil
  | cons x r => exact Aus.joins x r h 1
theorem Aus.brac {d q : Nat} {xs : List (List Nat)} (h : ∀ x ∈ xs, ∀ q, Aus q x 1) : Aus q (bracT d xs) 1 := by
  unfold bracT
  split
  · refine .cons (.w w40) ((Aus.join h).app ?_)
    split
    · exact .cons .com (Aus.one w41)
    · exact Aus.one w41
  · exact .cons (.w w91) ((Aus.join h).app (Aus.one w93))
theorem tol_aus {al : Array UInt8} {sg : Str} (hp : Pr al sg) : ∀ (n : Nat) (t : Tr) (d q : Nat), Le n t → Aus q (tolT (encT al) d t) 1 := by
  have leaf : ∀ (b : Array UInt8) (d q : Nat), b.size ≤ 5 → Aus q (tolT (encT al) d (.leaf b)) 1 := by
    intro b d q hb
    rw [tolT]
    exact .cons (.w w39) ((Aus.inw (encT_w hp hb)).app (Aus.one w39))
  intro n
  induction n with
  | zero =>
    intro t d q h
    cases t with
    | node ts => exact h.elim
    | leaf b => exact leaf b d q h
  | succ n ih =>
    intro t d q h
    cases t with
    | leaf b => exact leaf b d q h
    | node ts =>
      rw [tolT, tolTs_eq]
      refine Aus.brac fun x hx q => ?_
      obtain ⟨t, ht, rfl⟩ := List.mem_map.mp hx
      exact ih t (d + 1) q (h t ht)
theorem join_flt : ∀ (xs : List (List Nat)), (joinT xs).filter sgn = xs.flatMap (List.filter sgn)
  | [] => rfl
  | [x] => by simp [joinT]
  | x :: y :: r => by
    have ih := join_flt (y :: r)
    rw [joinT, List.filter_append, List.filter_cons, if_neg (by decide), List.filter_cons, if_neg (by decide), ih]; rfl
theorem brac_flt (d : Nat) (xs : List (List Nat)) : (bracT d xs).filter sgn = (if d % 2 = 1 then 40 else 91) :: (xs.flatMap (List.filter sgn) ++ [if d % 2 = 1 then 41 else 93]) := by
  unfold bracT
  split
  · rw [List.filter_cons, if_pos (by decide), List.filter_append, List.filter_append, join_flt]
    split
    · simp [sgn]
    · simp [sgn]
  · rw [List.filter_cons, if_pos (by decide), List.filter_append, join_flt]
    simp [sgn]
theorem RRun.figs {dec : List Nat → Array UInt8 → Prop} {cur : List Dat} {outs : List (List Dat)} : ∀ (l f : List Nat), (∀ c ∈ l, c ≠ 39) → RRun dec ⟨some f, cur, outs⟩ l ⟨some (f ++ l), cur, outs⟩
  | [], f, _ => by rw [List.append_nil]; exact .nil
  | c :: l, f, h => by
    have := RRun.figs (dec := dec) (cur := cur) (outs := outs) l (f ++ [c]) fun x hx => h x (.tail _ hx)
    rw [List.append_assoc] at this
    exact .cons (.fig (h c (.head _))) this
theorem tol_run {al : Array UInt8} {sg : Str} (hp : Pr al sg) (hf : ∀ b : Array UInt8, b.size ≤ 5 → FigOk al (encT al b) b) : ∀ (n : Nat) (t : Tr) (d : Nat) (cur : List Dat) (outs : List (List Dat)), Le n t → RRun (FigOk al) ⟨none, cur, outs⟩ ((tolT (encT al) d t).filter sgn) ⟨none, cur ++ [srtD d t], outs⟩ := by
  have leaf : ∀ (b : Array UInt8) (d : Nat) (cur : List Dat) (outs : List (List Dat)), b.size ≤ 5 → RRun (FigOk al) ⟨none, cur, outs⟩ ((tolT (encT al) d (.leaf b)).filter sgn) ⟨none, cur ++ [srtD d (.leaf b)], outs⟩ := by
    intro b d cur outs hb
    have h1 : (encT al b).filter sgn = encT al b := by
      rw [List.filter_eq_self]
      intro c hc
      have := encT_w hp hb c hc
      rw [Bool.or_eq_true, beq_iff_eq] at this
      rcases this with h | rfl
      · exact wC_sgn h
      · decide
    have h2 : ∀ c ∈ encT al b, c ≠ 39 := by
      intro c hc
      have := encT_plain hp hb c hc
      unfold plainC at this
      simp only [Bool.and_eq_true, bne_iff_ne] at this
      exact this.2
    rw [tolT, srtD, List.filter_cons, if_pos (by decide), List.filter_append, h1, List.filter_cons, if_pos (by decide), List.filter_nil]
    refine .cons .beg ((RRun.figs _ [] h2).app (.cons (.fin ?_) .nil))
    rw [List.nil_append]; exact hf b hb
  intro n
  induction n with
  | zero =>
    intro t d cur outs h
    cases t with
    | node ts => exact h.elim
    | leaf b => exact leaf b d cur outs h
  | succ n ih =>
    intro t d cur outs h
    cases t with
    | leaf b => exact leaf b d cur outs h
    | node ts =>
      have key : ∀ (ts : List Tr) (c : List Dat) (o : List (List Dat)), (∀ t ∈ ts, Le n t) → RRun (FigOk al) ⟨none, c, o⟩ ((ts.map (tolT (encT al) (d + 1))).flatMap (List.filter sgn)) ⟨none, c ++ ts.map (srtD (d + 1)), o⟩ := by
        intro ts
        induction ts with
        | nil => intro c o _; simp only [List.map_nil, List.flatMap_nil, List.append_nil]; exact .nil
        | cons t ts iht =>
          intro c o ht
          have a := ih t (d + 1) c o (ht t (.head _))
          have b := iht (c ++ [srtD (d + 1) t]) o fun x hx => ht x (.tail _ hx)
          rw [List.append_assoc] at b
          simp only [List.map_cons, List.flatMap_cons]
          exact a.app b
      rw [tolT, tolTs_eq, brac_flt, srtD, srtDs_eq]
      unfold seqD
      have k := key ts [] (cur :: outs) h
      rw [List.nil_append] at k
      by_cases hd : d % 2 = 1
      · rw [if_pos hd, if_pos hd, if_pos hd]
        exact .cons (.opn (.inr rfl)) (k.app (.cons .tup .nil))
      · rw [if_neg hd, if_neg hd, if_neg hd]
        exact .cons (.opn (.inl rfl)) (k.app (.cons .lst .nil))
/-- what is asked of the told text -/
theorem told_sts {al : Array UInt8} {sg : Str} (hp : Pr al sg) (hf : ∀ b : Array UInt8, b.size ≤ 5 → FigOk al (encT al b) b) {n : Nat} {t : Tr} (h : Le n t) :
    ∃ sts, StG sts (tolT (encT al) 0 t) ∧ (∀ c ∈ tolT (encT al) 0 t, c ≠ 34) ∧ RRun (FigOk al) ⟨none, [], []⟩ ((sts.map rowOf).flatMap rowTxt) ⟨none, [srtD 0 t], []⟩ ∧ ((sts.map rowOf).flatMap rowTxt).length ≤ (tolT (encT al) 0 t).length := by
  have a := tol_aus hp n t 0 2 h
  have p := PS.run a PS.ini
  rw [List.nil_append] at p
  cases p with
  | wrd w =>
    refine ⟨_, w.stg, a.no34, ?_, ?_⟩
    · rw [w.rows]; exact tol_run hp hf n t 0 [] [] h
    · rw [w.rows]; exact List.length_filter_le _ _
theorem short_sts {al : Array UInt8} {sg : Str} (hp : Pr al sg) {n : Nat} {t : Tr} (h : Le n t) (h80 : ¬ (tolT (encT al) 0 t).length < 80) :
    ∃ sts, StG sts (shortT (tolT (encT al) 0 t)) ∧ (∀ c ∈ shortT (tolT (encT al) 0 t), c ≠ 34) ∧ (shortT (tolT (encT al) 0 t)).length ≤ 95 := by
  have a := tol_aus hp n t 0 2 h
  rw [← List.take_append_drop 80 (tolT (encT al) 0 t)] at a
  obtain ⟨m, a1, a2⟩ := a.split
  have p := PS.run a1 PS.ini
  rw [List.nil_append] at p
  have hl : ((tolT (encT al) 0 t).take 80).length = 80 := by rw [List.length_take]; lia
  obtain ⟨sts, g⟩ := p.trunc (fun e => by rw [e] at hl; cases hl)
  unfold shortT
  rw [if_neg h80]
  refine ⟨sts, g, ?_, ?_⟩
  · intro c hc
    rcases List.mem_append.mp hc with hc | hc
    · exact a1.no34 c hc
    · have : ∀ c ∈ truncT, c ≠ 34 := by decide
      exact this c hc
  · rw [List.length_append, hl]; decide
end Mine
end
section
open PySem PySem.W PySem.Spec PySem.Calls PyProof.Rows
set_option maxRecDepth 100000
namespace Mine
/-- the other way back -/
def bkC (al : Array UInt8) (c : Nat) : Int := (((trTab al #[43, 47]).getD c.toUInt8.toNat c.toUInt8).toNat : Int)
theorem bkC_sx {al : Array UInt8} {sg : Str} (h : Pr al sg) {j : Int} (h0 : 0 ≤ j) (h1 : j < 64) : bkC al (trC al (sx j)) = sx j := by
  have k1 : ∀ k < 64, ((trQ 43 47 43 47 (trQ 43 47 43 47 (sx ((k : Nat) : Int)).toNat.toUInt8.toNat).toUInt8.toNat : Nat) : Int) = sx ((k : Nat) : Int) := by decide +kernel
  have k2 : ∀ k < 64, ((trQ 45 95 43 47 (trQ 43 47 45 95 (sx ((k : Nat) : Int)).toNat.toUInt8.toNat).toUInt8.toNat : Nat) : Int) = sx ((k : Nat) : Int) := by decide +kernel
  have e : ((j.toNat : Nat) : Int) = j := by lia
  unfold bkC trC
  rcases h with ⟨rfl, rfl⟩ | ⟨rfl, rfl⟩
  · have := k1 j.toNat (by lia); rw [trQ_eq, trQ_eq]; rwa [e] at this
  · have := k2 j.toNat (by lia); rw [trQ_eq, trQ_eq]; rwa [e] at this
theorem bkC_61 {al : Array UInt8} {sg : Str} (h : Pr al sg) : bkC al (trC al 61) = 61 := by
  unfold bkC trC
  rcases h with ⟨rfl, rfl⟩ | ⟨rfl, rfl⟩ <;> (rw [trQ_eq, trQ_eq]; decide +kernel)
theorem back_eq (al : Array UInt8) (f : List Nat) : KBw.bInts (trBy (trTab al #[43, 47]) ((sOf f).cps.map (·.toUInt8))) = f.map (bkC al) := by
  unfold KBw.bInts trBy sOf bkC
  simp
theorem byteArr_ints (b : Array UInt8) : byteArr (KBw.bInts b) = b := by
  unfold byteArr KBw.bInts
  apply Array.toList_inj.mp
  rw [List.toList_toArray, List.map_map]
  conv => rhs; rw [← List.map_id b.toList]
  exact List.map_congr_left fun c _ => by simp
theorem fig_ok {al : Array UInt8} {sg : Str} (hp : Pr al sg) (b : Array UInt8) (hb : b.size ≤ 5) : FigOk al (encT al b) b := by
  have ho : Oct (KBw.bInts b) := fun c hc => KBw.ints_in hc
  have ran := six_ran ho
  obtain ⟨l1, l2⟩ := six_len (KBw.bInts b)
  refine ⟨?_, (six (KBw.bInts b)).map sx, padN (KBw.bInts b), ⟨?_, ?_, by rw [List.length_map]; exact l2⟩, by rw [dec_six ho, List.nil_append, byteArr_ints]⟩
  · intro c hc
    have := encT_lt hp hb c (by simpa [sOf] using hc)
    simpa using this
  · rw [back_eq, encT_eq, enc64_six ho, List.map_map]
    conv => rhs; rw [← List.map_id ((six (KBw.bInts b)).map sx ++ List.replicate (padN (KBw.bInts b)) 61)]
    refine List.map_congr_left fun x hx => ?_
    rcases List.mem_append.mp hx with hx | hx
    · obtain ⟨j, hj, rfl⟩ := List.mem_map.mp hx
      exact bkC_sx hp (ran j hj).1 (ran j hj).2
    · rw [(List.mem_replicate.mp hx).2]; exact bkC_61 hp
  · intro c hc
    obtain ⟨j, hj, rfl⟩ := List.mem_map.mp hc
    rw [b64v_sx (ran j hj).1 (ran j hj).2]
    exact ⟨sx_range.1, sx_range.2, (ran j hj).2⟩
end Mine
end
section
open PySem PySem.W PySem.Spec PySem.Calls PyProof.Rows
namespace Mine
open PyProof.Rows.LCg
set_option maxRecDepth 100000
set_option maxHeartbeats 8000000
theorem kw_Tol_0 : True := by
  k_with_none
  trivial
theorem kw_Tol_1 : True := by
  (k_with "execs cons" => ((with_reducible show wpAny _ _ (execs (_ :: _) _) _ _ ⟨_, _, _, HAdd.hAdd _ _, _⟩); (try dsimp only); refine dropT ?_; intro tk9))
  (k_with "enterC" => ((case h1 => k_is); (case h2 => k_is); (case h3 => first | decide | (show 900 - 10 * _ < 1000; omega)); (case h4 => first | exact fun _ _ => BindsTo.of_eq rfl | exact fun _ kn => kp_binds kn.X (fun _ => rfl)); (case h5 => exact rfl); (case c5 => decide +kernel);  (case c2 => exact rfl); (case c3 => exact rfl); (case c4 => exact rfl)))
  (k_with "call ref" => ((with_reducible show wpAny _ _ (call (Value.ref 186) _ _) _ _ _); refine Hold.mk ?_))
  (k_with "last pyIter bytes" => (refine Hold.mk ?_))
  trivial
section
variable {w : World} {A : Around} {E : Value → Shared → Prop} {s : Shared}
theorem alphS_len {sg : Str} (h : sg.length = 2) : (alphS sg).length = 64 := by
  unfold alphS
  rw [Str.length_append, h]; rfl
theorem add_alph {sg : Str} {t u : Tok} {Q : Value → Shared → Prop} (hs : sg.length = 2) (h : ∀ t' tk, Q (.str (alphS sg) t') { s with toks := tk }) : wpAny (model prg w) A (binaryOp .Add (.str (Str.ofString "ABCDEFGHIJKLMNOPQRSTUVWXYZabcdefghijklmnopqrstuvwxyz0123456789") t) (.str sg u)) Q E s := by
  refine PyProof.Rows.add_str h ?_
  rw [hs, sizeLine_eq]; decide
theorem sub_alph {value slice : PySem.Expr} {sg : Str} {j : Int} {t u : Tok} {Q : Value → Shared → Prop} (h0 : 0 ≤ j) (h1 : j < 64) (hs : sg.length = 2) (h : ∀ t' k, Q (.str ⟨#[alC sg j]⟩ t') { s with toks := k })
    (hsub : subscripted slice false (.str (alphS sg) t) (.int j u) = operate [.str (alphS sg) t, .int j u] (getItem (.str (alphS sg) t) (.int j u))) :
    wpAny (model prg w) A (subscriptTail value slice (.str (alphS sg) t) (.int j u)) Q E s := by
  have hl := alphS_len hs
  refine tail_any (typeIs_str _ _ _) F.slot_str_getitem.lookup (P.getItem_str (c := alC sg j) (by simp; lia) ?_ (h _ _)) hsub
  have e : seqIndex? j (alphS sg).length = some j.toNat := by
    rw [hl]
    unfold seqIndex?
    simp
    lia
  rw [e]
  have hlt : j.toNat < (alphS sg).cps.size := by
    have : (alphS sg).cps.size = 64 := hl
    lia
  unfold alC
  simp [Array.getD, hlt]
end
theorem fmod4_0 {j : Int} : 0 ≤ j.fmod 4 := by rw [Int.fmod_eq_emod_of_nonneg _ (by decide)]; lia
theorem fmod4_1 {j : Int} : j.fmod 4 ≤ 3 := by rw [Int.fmod_eq_emod_of_nonneg _ (by decide)]; lia
theorem fmod64_0 {j : Int} : 0 ≤ j.fmod 64 := by rw [Int.fmod_eq_emod_of_nonneg _ (by decide)]; lia
theorem fmod64_1 {j : Int} : j.fmod 64 < 64 := by rw [Int.fmod_eq_emod_of_nonneg _ (by decide)]; lia
theorem kw_Tol_2 : True := by
  (k_with "binaryOp Pow int int" => ((with_reducible refine pow_int_small ?kb1 ?kb2 ?kb3 ?_); (case kb1 => ((try simp only [List.length_cons, List.length_nil]); lia)); (case kb2 => ((try simp only [List.length_cons, List.length_nil]); lia)); (case kb3 => decide)))
  trivial
theorem fdiv6 (x : Int) : x.fdiv 6 = x / 6 := Int.fdiv_eq_ediv_of_nonneg _ (by decide)
theorem kw_Tol_3 : True := by
  (k_with "storeName" => simp only [fdiv6])
  trivial
theorem powB (B : Nat) (hB : 0 < B ∧ B ≤ 256) {e : Int} (h : e < 100) : ((B : Int) ^ e.toNat) ≠ 0 ∧ ((B : Int) ^ e.toNat).natAbs.log2 < 9000 := by
  have hp : 0 < B ^ e.toNat := Nat.pow_pos hB.1
  have e1 : ((B : Int) ^ e.toNat).natAbs = B ^ e.toNat := by rw [Int.natAbs_pow]; rfl
  constructor
  · intro h0
    rw [h0] at e1
    simp at e1
    lia
  · rw [e1]
    refine (Nat.log2_lt (Nat.ne_of_gt hp)).mpr ?_
    have h1 : B ^ e.toNat ≤ 256 ^ e.toNat := Nat.pow_le_pow_left hB.2 _
    have h2 : 256 ^ e.toNat ≤ 256 ^ 100 := Nat.pow_le_pow_right (by decide) (by lia)
    have h3 : 256 ^ 100 < 2 ^ 9000 := by decide +kernel
    lia
theorem kw_Tol_4 : True := by
  (k_with "binaryOp FloorDiv int int" => ((with_reducible show wpAny _ _ (binaryOp _ (Value.int _ _) (Value.int (64 ^ _) _)) _ _ _); (with_reducible refine floordiv_int ?kbe ?_ (Or.inl (PyProof.noPylong_of_log2 ?kbp))); (case kbe => exact (powB 64 (by decide) (by lia)).1); (case kbp => exact (powB 64 (by decide) (by lia)).2)))
  (k_with "binaryOp Mult int int" => ((with_reducible show wpAny _ _ (binaryOp _ (Value.int _ _) (Value.int (2 ^ _) _)) _ _ _); (with_reducible refine mul_int ?_ (IntMulOk.of_left (by assumption)))))
  (k_with "exec Assign cons ListComp" => refine Hold.mk ?_)
  (k_with "CompSrc" => refine Hold.mk ?_)
  (k_with "binaryOp Add str str" => (refine add_alph (by assumption) ?_; intro t9 k9))
  (k_with "subscriptTail" => ((with_reducible show wpAny _ _ (subscriptTail _ _ (Value.str (alphS _) _) (Value.int _ _)) _ _ _); (try dsimp only); k_dflt (refine' sub_alph ?h0 ?h1 (by assumption) ?_ ?hs; (case h0 => exact fmod64_0); (case h1 => exact fmod64_1); (case hs => with_unfolding_all rfl); k_whole); intro t9 k9))
  (k_with "call builtin:str.join" => (refine' join_strs ?N ?hm ?hc ?hs ?hl ?hz ?_; (case N => k_asm); (case hm => k_mem); (case hc => assumption); (case hs => first | exact lit_n | exact lit_cs); (case hl => decide); (case hz => assumption); simp only [join_nil, join_cs]; intro t9 k9))
  (k_with "binaryOp Add str str" => (refine' add_gen ?hx ?hy ?hl ?_; (case hx => first | exact lit_q | exact lit_b1 | exact lit_p1 | exact rfl); (case hy => first | exact lit_q | exact lit_b2 | exact lit_p2 | exact lit_c | exact lit_n | exact rfl); (case hl => ((try simp only [List.length_append, List.length_cons, List.length_nil, List.length_replicate]); lia)); intro t9 k9))
  (k_with "binaryOp Add str str" => (refine add_alph (by assumption) ?_; intro t9 k9))
  (k_with "binaryOp Mult str int" => (refine mul_eq fmod4_0 fmod4_1 ?_; intro t9 k9))
  trivial
theorem numB_snoc (ks : List Int) (c : Int) : numB (ks ++ [c]) = numB ks * 256 + c := by
  unfold numB; rw [List.foldl_append]; rfl
theorem numB_nonneg (ks : List Int) (h : ∀ c ∈ ks, 0 ≤ c ∧ c < 256) : ∀ i, 0 ≤ numB (ks.take i) ∧ numB (ks.take i) < 256 ^ (min i ks.length) := by
  intro i
  induction i with
  | zero => simp [numB]
  | succ i ih =>
    rw [List.take_add_one]
    cases e : ks[i]? with
    | none =>
      have hl := List.getElem?_eq_none_iff.mp e
      rw [show min (i + 1) ks.length = min i ks.length by lia]
      simpa using ih
    | some c =>
      have hl := (List.getElem?_eq_some_iff.mp e).1
      have hc := h c (List.mem_of_getElem? e)
      rw [Option.toList_some, numB_snoc, show min (i + 1) ks.length = min i ks.length + 1 by lia, Int.pow_succ]
      constructor <;> lia
theorem powLe {a b : Nat} (h : a ≤ b) : (256 : Int) ^ a ≤ 256 ^ b := by
  have := Nat.pow_le_pow_right (n := 256) (by decide) h
  have e : ∀ k : Nat, ((256 ^ k : Nat) : Int) = (256 : Int) ^ k := fun k => by simp
  rw [← e, ← e]
  exact Int.ofNat_le.mpr this
theorem size_ok {n : Nat} : Builtin.Range.rangeSize 0 (n : Int) 1 = ((n : Nat) : Int) := by
  unfold Builtin.Range.rangeSize
  rw [if_pos (by decide)]
  split <;> lia
theorem small_all : ∀ n < 8, Builtin.Range.small 0 ((n : Nat) : Int) 1 = true := by decide +kernel
theorem small_ok {n : Nat} (h : n ≤ 7) : Builtin.Range.small 0 (n : Int) 1 = true := small_all n (Nat.lt_succ_of_le h)
inductive TolJ (L' : Addr) (b : Array UInt8) (tb : Tok) (sg : Str) (u : Tok) (i : Nat) (m : Str → Option Value) (nx : List (Addr × Obj)) : Prop
  | mk (o4 o3 o2 o1 : Obj) (t : Tok) (v4 v3 : Option Value) (h0 : nx = [(L' + 1 + 1 + 1 + 1, o4), (L' + 1 + 1 + 1, o3), (L' + 1 + 1, o2), (L' + 1, o1)]) (h1 : o4.data = .cell v4) (h2 : o3.data = .cell v3) (h3 : o2.data = .cell (some (.int (numB ((KBw.bInts b).take i)) t))) (h4 : o1.data = .cell (some (.str sg u))) (h5 : m (Str.ofString "thing") = some (.bytes b tb)) : TolJ L' b tb sg u i m nx
theorem tol_leaf (w : World) (al : Array UInt8) (sg : Str) (hal : (al = #[43, 47] ∧ sg = Str.ofString "+/") ∨ (al = #[45, 95] ∧ sg = Str.ofString "-_")) (n : Nat) (b : Array UInt8) (d : Nat) (v : Value) (u : Tok) (hn : n ≤ 8) (hb : b.size ≤ 5) :
   PureC w (n + 1) 186 [v, .str sg u] [] (fun h => AtD h v (srtD d (.leaf b))) (fun _ _ r => ∃ t, r = .str (sOf (tolT (encT al) d (.leaf b))) t) := by
  refine' enterC [(Str.ofString "thing", v), (Str.ofString "signs", .str sg u)] ?h1 ?h2 ?h3 ?h4 ?h5 ?c5 ?_ ?c2 ?c3 ?c4
  walk_at "enterC"
  intro s p' loose' mg' mb' L' h' tk' cells' pre' F' N' Y' X' T' P' hP'
  k_cells Y'
  rw [srtD] at pre'
  obtain ⟨tb, rfl⟩ := AtD.bytes pre'
  have hsg : sg.length = 2 := by rcases hal with ⟨_, rfl⟩ | ⟨_, rfl⟩ <;> rfl
  k_steps
  unfold Hold
  (rename Fr _ _ _ _ => F1); (rename News _ _ _ _ => N1)
  refine loop_bytes (fun i m nx => TolJ L' b tb sg u i m nx) rfl F1 N1 ?_ ?_ ?_
  · exact ⟨_, _, _, _, _, _, _, rfl, by assumption, by assumption, by assumption, by assumption, rfl⟩
  · intro i c uc m₁ nx h tk own hc hoff hJ F₁ N₁
    refine genF fun P1 hPa => ?_
    obtain ⟨o4, o3, o2, o1, t2, v4, v3, rfl, d4, d3, d2, d1, hth⟩ := hJ
    replace F₁ := Fr.knownIf F₁ [(Str.ofString "thing", .bytes b tb)] (by simp [hth])
    simp only [List.map_cons, List.map_nil, List.cons_append, List.nil_append] at hoff N₁
    have hnb := numB_nonneg (KBw.bInts b) (fun c hc => KBw.ints_in hc) i
    have hci := KBw.ints_get hc
    have hcr := KBw.ints_in (List.mem_of_getElem? hci)
    have hs1 : numB ((KBw.bInts b).take (i + 1)) = numB ((KBw.bInts b).take i) * 256 + (c.toNat : Int) := by rw [List.take_add_one, hci]; exact numB_snoc _ _
    have hnb2 : numB ((KBw.bInts b).take i) < 1099511627776 := by
      have h5 : (256 : Int) ^ (min i (KBw.bInts b).length) ≤ 256 ^ 5 := powLe (by rw [KBw.ints_length]; lia)
      have : (256 : Int) ^ 5 = 1099511627776 := by decide
      lia
    obtain ⟨hnb0, _⟩ := hnb
    generalize (c.toNat : Int) = cb at *
    generalize numB ((KBw.bInts b).take i) = nb at *
    k_steps
    refine endP hPa (InvEndG.intro (nx := [_, _, _, _]) (by k_asm) (by k_asm) ⟨_, _, _, _, _, _, _, rfl, d4, d3, (by rw [hs1]; assumption), d1, rfl⟩ hoff (by intro p hp; simp only [List.mem_cons, List.not_mem_nil, or_false] at hp; rcases hp with h | h | h | h <;> simp [h]) (fun p hp => by simp [hp]))
  · intro m₁ nx h tk hJ F₁ N₁
    obtain ⟨o4, o3, o2, o1, t2, v4, v3, rfl, d4, d3, d2, d1, hth⟩ := hJ
    replace F₁ := Fr.known F₁ [(Str.ofString "thing", .bytes b tb)] (by simp [hth])
    have hnb := numB_nonneg (KBw.bInts b) (fun c hc => KBw.ints_in hc) b.size
    have hnb2 : numB ((KBw.bInts b).take b.size) < 1099511627776 := by
      have h5 : (256 : Int) ^ (min b.size (KBw.bInts b).length) ≤ 256 ^ 5 := powLe (by rw [KBw.ints_length]; lia)
      have : (256 : Int) ^ 5 = 1099511627776 := by decide
      lia
    obtain ⟨hnb0, _⟩ := hnb
    have hbits : Builtin.Int.intBits (numB ((KBw.bInts b).take b.size)) ≤ 64 := intBits_le_64 (by lia) (by lia)
    k_steps
    unfold Hold
    (rename Fr _ _ _ _ => F2)
    refine LCg.Assign_ListComp_U (F₀ := F2) (by rfl) (by with_unfolding_all rfl) (by with_unfolding_all rfl) (by decide) (by rfl) (by decide) (by rfl) (by rfl) (by rfl) ?_
    k_steps
    unfold Hold
    have hcn : (8 * (b.size : Int) + 5) / 6 = (((8 * b.size + 5) / 6 : Nat) : Int) := by lia
    have hc7 : (8 * b.size + 5) / 6 ≤ 7 := by lia
    (rename Fr _ _ _ _ => F3); (rename News _ _ _ _ => N3)
    refine LCg.CompSrc.range (n := (8 * b.size + 5) / 6) rfl F3 N3 (by assumption) ?_ ?_ ?_ fun g => ?_
    · rw [hcn]; exact small_ok hc7
    · rw [hcn]; exact size_ok
    · rw [sizeLine_eq]; lia
    · refine comp_ind (fun i ys news => news = [_, _, _, _] ∧ Strs ys ((List.range i).map fun (k : Nat) => [figC sg b k])) ⟨rfl, Strs.nil⟩ ?_ ?_
      · intro i ys news v I' oI' C' oC' D' m' h' tk' E' hi hv hj hC' hx' F' N' off' ne'
        obtain ⟨rfl, hCh⟩ := hj
        obtain ⟨tv, rfl⟩ := hv
        k_steps
        (rename Fr _ _ _ _ => F9); (rename News _ _ _ _ => N9)
        refine LCg.CompEnd.intro F9 N9 [_, _, _, _] (fun p hp => hp) off' trivial ⟨rfl, ?_⟩
        rw [List.range_succ, List.map_append]
        exact Strs.snoc (c := [_]) hCh
      · intro ys news hj
        obtain ⟨rfl, hCh⟩ := hj
        unfold LCg.FinA
        intro D9 h9 tk9 F9 N9 o9
        have hz9 : (((List.range ((8 * b.size + 5) / 6)).map fun (k : Nat) => [figC sg b k]).map List.length).sum + ((List.range ((8 * b.size + 5) / 6)).map fun (k : Nat) => [figC sg b k]).length * 2 ≤ 1000000 := by
          rw [List.map_map, show (List.length ∘ fun (k : Nat) => [figC sg b k]) = fun _ => 1 from rfl]
          simp only [List.map_const', List.sum_replicate_nat, List.length_range, List.length_map]
          lia
        have hfl : (((List.range ((8 * b.size + 5) / 6)).map fun (k : Nat) => [figC sg b k]).flatten).length ≤ 7 := by
          rw [List.length_flatten, List.map_map, show (List.length ∘ fun (k : Nat) => [figC sg b k]) = fun _ => 1 from rfl]
          simp only [List.map_const', List.sum_replicate_nat, List.length_range]
          lia
        have hm4 : ((-((8 * (b.size : Int) + 5) / 6)).fmod 4).toNat ≤ 3 := by have := fmod4_1 (j := -((8 * (b.size : Int) + 5) / 6)); lia
        generalize hfs : ((List.range ((8 * b.size + 5) / 6)).map fun (k : Nat) => [figC sg b k]) = fs at *
        k_steps
        refine hP' _ _ (Done.intro (by assumption) ⟨_, congrArg (Value.str · _) ?_⟩)
        congr 1
        rw [tolT, ← told_leaf hal hb, hfs]
        simp
theorem kw_Tol_5 : True := by
  (k_with "call builtin:isinstance" => first
  | (refine IsiPair.tuple_bytes (Fr.keep (by k_asm) _ _ (by assumption)) rfl ?_)
  | (refine IsiPair.tuple_tuple (Fr.keep (by k_asm) _ _ (by assumption)) rfl ?_)
  | (refine IsiPair.list_bytes (Fr.keep (by k_asm) _ _ (by assumption)) rfl ?_)
  | (refine IsiPair.list_tuple (Fr.keep (by k_asm) _ _ (by assumption)) rfl ?_))
  (k_with "eval ListComp" => refine Hold.mk ?_)
  trivial
theorem len_tupB {prog : Program} {w : World} {A : Around} {E : Value → Shared → Prop} {s : Shared} {h₀ : Heap} {L : Addr} {m : Str → Option Value} {t : Addr} {vs : List Value} {n : Nat} {Q : Value → Shared → Prop} (F : Fr h₀ L s.heap m) (hg : h₀.get? t = some { cls := .type "tuple", data := .seq vs.toArray n }) (hfit : vs.length ≤ 1000)
    (h : Q (.int (vs.length : Int) (s.toks + 1)) { s with toks := s.toks + 1 + 1 }) : wpAny (model prog w) A (call (.builtin "len") [.ref t]) Q E s :=
  len_tuple ⟨_, F.keep _ _ hg, rfl, _, rfl⟩ (by rw [List.size_toArray]; lia) (by rw [List.size_toArray]; exact h)
theorem kw_Tol_6 : True := by
  (k_with "call builtin:len" => (refine len_tupB (by k_asm) (by assumption) (by assumption) ?_))
  trivial
theorem tol_spec (w : World) (al : Array UInt8) (sg : Str) (hal : Pr al sg) : ∀ (n : Nat) (t : Tr) (d : Nat) (v : Value) (u : Tok), n ≤ 8 → Le n t → wt t ≤ 1000 →
   PureC w (n + 1) 186 [v, .str sg u] [] (fun h => AtD h v (srtD d t)) (fun _ _ r => ∃ t', r = .str (sOf (tolT (encT al) d t)) t') := by
  intro n
  induction n with
  | zero =>
    intro t d v u hn hle hwt
    cases t with
    | node ts => exact hle.elim
    | leaf b => exact tol_leaf w al sg hal 0 b d v u hn hle
  | succ n ih =>
    intro t d v u hn hle hwt
    cases t with
    | leaf b => exact tol_leaf w al sg hal (n + 1) b d v u hn hle
    | node ts =>
      refine' enterC [(Str.ofString "thing", v), (Str.ofString "signs", .str sg u)] ?h1 ?h2 ?h3 ?h4 ?h5 ?c5 ?_ ?c2 ?c3 ?c4
      walk_at "enterC"
      intro s p' loose' mg' mb' L' h' tk' cells' pre' F' N' Y' X' T' P' hP'
      k_cells Y'
      rw [srtD] at pre'
      obtain ⟨ax, vs, nn, nw, rfl, hnw, hall, hpar⟩ := AtD.seq pre'
      rcases hpar with ⟨hpar, hget⟩ | ⟨hpar, hget⟩
      · have hl : SeqB s.heap ax vs.toArray := .tup ⟨_, hget, rfl, _, rfl⟩
        have hlen := DatAll.length hall
        rw [srtDs_eq, List.length_map] at hlen
        have hwl : vs.length ≤ 1000 := by have := wts_len ts; rw [wt] at hwt; lia
        k_steps
        unfold Hold
        (rename Fr _ _ _ _ => F1)
        refine comp_E (its := vs.toArray) F1 (by with_unfolding_all rfl) (by decide) (by rfl) (by decide) (by rfl) ?_
        k_steps
        (rename News _ _ _ _ => N1)
        refine Rst.of rfl (by assumption) N1 hl (by rw [List.size_toArray, sizeLine_eq]; lia) fun g => ?_
        refine comp_ind (fun i ys news => news = [_, _, _, _] ∧ Strs ys ((ts.take i).map (tolT (encT al) (d + 1)))) ⟨rfl, Strs.nil⟩ ?_ ?_
        · intro i ys news v I' oI' C' oC' D' m' h' tk' E' hi hv hj hC' hx' F' N' off' ne'
          obtain ⟨rfl, hD⟩ := hj
          obtain ⟨dv, hdv, hin⟩ := DatAll.at hall (by simpa using hv)
          rw [srtDs_eq, List.getElem?_map] at hdv
          obtain ⟨ti, hti, rfl⟩ := Option.map_eq_some_iff.mp hdv
          have hmem := List.mem_of_getElem? hti
          have ihh : ∀ u, PureC w (n + 1) 186 [v, .str sg u] [] (fun h => AtD h v (srtD (d + 1) ti)) (fun _ _ r => ∃ t', r = .str (sOf (tolT (encT al) (d + 1) ti)) t') := fun u => ih ti (d + 1) v u (by lia) (hle ti hmem) (by have := wt_mem hmem; rw [wt] at hwt; lia)
          k_steps
          unfold Hold
          (rename Fr _ _ _ _ => F2); (rename News _ _ _ _ => N2)
          refine PureC.use (ihh _) F2 N2 (by assumption) (by assumption) (loD (by lia) (by lia) _) ⟨nw, fun p hp => F2.keep _ _ (hnw p hp), hin⟩ ?_
          intro v9 h9 tk9 F9 N9 k9 o9
          obtain ⟨t9, rfl⟩ := o9
          k_unfold
          rw [show (ts.take (i + 1)).map (tolT (encT al) (d + 1)) = (ts.take i).map (tolT (encT al) (d + 1)) ++ [tolT (encT al) (d + 1) ti] by rw [List.take_add_one, hti]; simp]
          exact LCg.CompEnd.intro F9 N9 [_, _, _, _] (fun p hp => hp) off' trivial ⟨rfl, Strs.snoc hD⟩
        · intro ys news hj
          obtain ⟨rfl, hD⟩ := hj
          rw [List.size_toArray, hlen, List.take_length] at hD
          unfold LCg.FinE
          intro D9 h9 tk9 F9 N9 o9
          have hz9 := tols_sum (al := al) (d := d + 1) (ts := ts) n hle
          have hz8 : wts ts ≤ 1000 := by rw [wt] at hwt; lia
          have hz9 : ((ts.map (tolT (encT al) (d + 1))).map List.length).sum + (ts.map (tolT (encT al) (d + 1))).length * 2 ≤ 1000000 := by lia
          have hjl := joinT_len (ts.map (tolT (encT al) (d + 1)))
          have hj9 : (joinT (ts.map (tolT (encT al) (d + 1)))).length ≤ 30000 := by lia
          k_steps
          · rename _ = (1 : Int) => hf
            refine hP' _ _ (Done.intro (by assumption) ⟨_, congrArg (Value.str · _) ?_⟩)
            rw [tolT, tolTs_eq]; unfold bracT; rw [if_pos hpar, if_pos (by rw [List.length_map]; lia)]; simp
          · rename ¬ _ = (1 : Int) => hf
            refine hP' _ _ (Done.intro (by assumption) ⟨_, congrArg (Value.str · _) ?_⟩)
            rw [tolT, tolTs_eq]; unfold bracT; rw [if_pos hpar, if_neg (by rw [List.length_map]; lia)]; simp
      · have hl : SeqB s.heap ax vs.toArray := .list ⟨_, hget, rfl, _, rfl⟩
        have hlen := DatAll.length hall
        rw [srtDs_eq, List.length_map] at hlen
        have hwl : vs.length ≤ 1000 := by have := wts_len ts; rw [wt] at hwt; lia
        k_steps
        unfold Hold
        (rename Fr _ _ _ _ => F1)
        refine comp_E (its := vs.toArray) F1 (by with_unfolding_all rfl) (by decide) (by rfl) (by decide) (by rfl) ?_
        k_steps
        (rename News _ _ _ _ => N1)
        refine Rst.of rfl (by assumption) N1 hl (by rw [List.size_toArray, sizeLine_eq]; lia) fun g => ?_
        refine comp_ind (fun i ys news => news = [_, _, _, _] ∧ Strs ys ((ts.take i).map (tolT (encT al) (d + 1)))) ⟨rfl, Strs.nil⟩ ?_ ?_
        · intro i ys news v I' oI' C' oC' D' m' h' tk' E' hi hv hj hC' hx' F' N' off' ne'
          obtain ⟨rfl, hD⟩ := hj
          obtain ⟨dv, hdv, hin⟩ := DatAll.at hall (by simpa using hv)
          rw [srtDs_eq, List.getElem?_map] at hdv
          obtain ⟨ti, hti, rfl⟩ := Option.map_eq_some_iff.mp hdv
          have hmem := List.mem_of_getElem? hti
          have ihh : ∀ u, PureC w (n + 1) 186 [v, .str sg u] [] (fun h => AtD h v (srtD (d + 1) ti)) (fun _ _ r => ∃ t', r = .str (sOf (tolT (encT al) (d + 1) ti)) t') := fun u => ih ti (d + 1) v u (by lia) (hle ti hmem) (by have := wt_mem hmem; rw [wt] at hwt; lia)
          k_steps
          unfold Hold
          (rename Fr _ _ _ _ => F2); (rename News _ _ _ _ => N2)
          refine PureC.use (ihh _) F2 N2 (by assumption) (by assumption) (loD (by lia) (by lia) _) ⟨nw, fun p hp => F2.keep _ _ (hnw p hp), hin⟩ ?_
          intro v9 h9 tk9 F9 N9 k9 o9
          obtain ⟨t9, rfl⟩ := o9
          k_unfold
          rw [show (ts.take (i + 1)).map (tolT (encT al) (d + 1)) = (ts.take i).map (tolT (encT al) (d + 1)) ++ [tolT (encT al) (d + 1) ti] by rw [List.take_add_one, hti]; simp]
          exact LCg.CompEnd.intro F9 N9 [_, _, _, _] (fun p hp => hp) off' trivial ⟨rfl, Strs.snoc hD⟩
        · intro ys news hj
          obtain ⟨rfl, hD⟩ := hj
          rw [List.size_toArray, hlen, List.take_length] at hD
          unfold LCg.FinE
          intro D9 h9 tk9 F9 N9 o9
          have hz9 := tols_sum (al := al) (d := d + 1) (ts := ts) n hle
          have hz8 : wts ts ≤ 1000 := by rw [wt] at hwt; lia
          have hz9 : ((ts.map (tolT (encT al) (d + 1))).map List.length).sum + (ts.map (tolT (encT al) (d + 1))).length * 2 ≤ 1000000 := by lia
          have hjl := joinT_len (ts.map (tolT (encT al) (d + 1)))
          have hj9 : (joinT (ts.map (tolT (encT al) (d + 1)))).length ≤ 30000 := by lia
          k_steps
          refine hP' _ _ (Done.intro (by assumption) ⟨_, congrArg (Value.str · _) ?_⟩)
          rw [tolT, tolTs_eq]; unfold bracT; rw [if_neg hpar]; simp
end Mine
end
section
open PySem PySem.W PySem.Spec PySem.Calls PyProof.Rows
namespace Mine
set_option maxRecDepth 100000
set_option maxHeartbeats 8000000
theorem kw_Rws_0 : True := by
  k_with_none
  trivial
theorem kw_Rws_1 : True := by
  (k_with "execs cons" => ((with_reducible show wpAny _ _ (execs (_ :: _) _) _ _ ⟨_, _, _, HAdd.hAdd _ _, _⟩); (try dsimp only); refine dropT ?_; intro tk9))
  (k_with "enter" => ((case h1 => k_is); (case h2 => k_is); (case h3 => first | decide | (show 900 - 10 * _ < 1000; omega)); (case h4 => first | exact fun _ _ => BindsTo.of_eq rfl | exact fun _ kn => kp_binds kn.X (fun _ => rfl)); (case h5 => exact locs rfl); (case c5 => decide);  (case c2 => exact rfl); (case c3 => exact rfl); (case c4 => exact rfl)))
  (k_with "exec For" => ((with_reducible show wpAny _ _ (exec (Stmt.For _ _ _ _ _) _) _ _ _); refine Hold.mk ?_))
  (k_with "exec For Name Call cons nil" => ((with_reducible show wpAny _ _ (exec (Stmt.For _ _ _ _ _) _) _ _ _); refine Hold.mk ?_))
  (k_with "pyIter ref" => (refine Hold.mk ?_))
  trivial
section
variable {prog : Program} {w : World} {A : Around} {E : Value → Shared → Prop} {s : Shared} {h₀ : Heap} {L : Addr} {m : Str → Option Value} {news : List (Addr × Obj)}
theorem split_rows {st : List Wd} {more : List (List Wd)} {t u : Tok} {Q : Value → Shared → Prop} (hok : ∀ s ∈ st :: more, StOk s) (hz : (stsTxt (st :: more)).length ≤ 100000) (hF : Fr h₀ L s.heap m) (hN : News h₀ L s.heap news)
    (h : ∀ D vs h' k, Strs vs ((st :: more).map stTxt) → Fr h₀ L h' m → News h₀ L h' ((D, W.listOf vs.toArray 0) :: news) → (∀ p ∈ news, p.1 < D) → Q (.ref D) { s with heap := h', toks := k }) :
    wpAny (model prog w) A (call (.builtin "str.split") [.str (sOf (stsTxt (st :: more))) t, .str (Str.ofString ",") u]) Q E s := by
  refine KSpl.split1 hF hN (by decide) (fun D l h' k e _ F N lt => h D _ h' k ?_ F N lt) (by rw [sOf_len, sizeLine_eq]; lia)
  rw [split_eq st more hok] at e
  exact strs_of (by rw [e, List.map_map]; rfl)
theorem split_words {x : Wd} {ws : List Wd} {t : Tok} {Q : Value → Shared → Prop} (hok : StOk (x :: ws)) (hz : (stTxt (x :: ws)).length ≤ 100000) (hF : Fr h₀ L s.heap m) (hN : News h₀ L s.heap news)
    (h : ∀ D vs h' k, Strs vs ((x :: ws).map Wd.body) → Fr h₀ L h' m → News h₀ L h' ((D, W.listOf vs.toArray 0) :: news) → (∀ p ∈ news, p.1 < D) → Q (.ref D) { s with heap := h', toks := k }) :
    wpAny (model prog w) A (call (.builtin "str.split") [.str (sOf (stTxt (x :: ws))) t]) Q E s := by
  refine KSpl.split0 hF hN (fun D l h' k e _ F N lt => h D _ h' k ?_ F N lt) (by rw [sOf_len, sizeLine_eq]; lia)
  rw [words_eq x ws hok] at e
  exact strs_of (by rw [e, List.map_map]; rfl)
theorem part_word {x : Wd} {mk re : List Nat} {t u : Tok} {Q : Value → Shared → Prop} (o : x.Ok) (hmk : wMark x = mk) (hre : wRest x = re) (hz : x.body.length ≤ 100000) (hF : Fr h₀ L s.heap m) (hN : News h₀ L s.heap news)
    (h : ∀ D ta tb tc h' k, Fr h₀ L h' m → News h₀ L h' ((D, { cls := .type "tuple", data := .seq [Value.str (sOf x.key) ta, .str (sOf mk) tb, .str (sOf re) tc].toArray }) :: news) → (∀ a ∈ news, a.1 < D) → Q (.ref D) { s with heap := h', toks := k }) :
    wpAny (model prog w) A (call (.builtin "str.partition") [.str (sOf x.body) t, .str (Str.ofString "=") u]) Q E s := by
  subst hmk; subst hre
  exact KXpa.partition hF hN (by decide) (by rw [part_eq' o]) (by rw [part_eq' o]) (by rw [part_eq' o]) (by rw [sOf_len, sizeLine_eq]; lia) h
theorem ne_cons {c : Nat} {l : List Nat} {t u : Tok} {Q : Value → Shared → Prop} (h : Q (.bool true) s) : wpAny (model prog w) A (compareOp .NotEq (.str (sOf (c :: l)) t) (.str (Str.ofString "") u)) Q E s :=
  P.ne_str (by rw [lit_n]; exact h)
theorem ne_nil {t u : Tok} {Q : Value → Shared → Prop} (h : Q (.bool false) s) : wpAny (model prog w) A (compareOp .NotEq (.str (sOf []) t) (.str (Str.ofString "") u)) Q E s :=
  P.ne_str (by rw [lit_n]; exact h)
theorem eq_cons {c : Nat} {l : List Nat} {t u : Tok} {Q : Value → Shared → Prop} (h : Q (.bool false) s) : wpAny (model prog w) A (compareOp .Eq (.str (sOf (c :: l)) t) (.str (Str.ofString "") u)) Q E s :=
  P.eq_str (by rw [lit_n]; exact h)
theorem eq_nil {t u : Tok} {Q : Value → Shared → Prop} (h : Q (.bool true) s) : wpAny (model prog w) A (compareOp .Eq (.str (sOf []) t) (.str (Str.ofString "") u)) Q E s :=
  P.eq_str (by rw [lit_n]; exact h)
theorem ne_row {a b : Addr} {kq kb : Nat} {qits : List Value} {ps : List Pair} {dl : List (Addr × Obj)} {bb : Bool} {Q : Value → Shared → Prop} (N : News h₀ L s.heap news) (ma : (a, W.listOf qits.toArray kq) ∈ news) (Da : DatAll dl qits (ps.map pairD)) (sa : ∀ p ∈ dl, p ∈ news)
    (mb : (b, W.listOf #[] kb) ∈ news) (hp : ∀ p ∈ ps, PrOk p) (hu : A.units + 64 < cLine) (hb : (!ps.isEmpty) = bb) (h : Q (.bool bb) s) : wpAny (model prog w) A (compareOp .NotEq (.ref a) (.ref b)) Q E s := by
  refine kqd_ne (xs := qits) (ys := []) (es := []) (n₂ := []) N ma rfl rfl Da sa mb rfl rfl DatAll.nil (fun p hp => absurd hp (by simp)) (fun d hd => ?_) (fun d hd => absurd hd (by simp)) hu ?_
  · obtain ⟨p, hpm, rfl⟩ := List.mem_map.mp hd
    exact pair_ok8 (hp p hpm)
  · have e : (!decide (ps.map pairD = [])) = bb := by
      rw [← hb]; cases ps <;> simp
    rw [e]; exact h
theorem last_item {value slice : PySem.Expr} {a : Addr} {its' : List Value} {v : Value} {k : Nat} {u : Tok} {Q : Value → Shared → Prop} (N : News h₀ L s.heap news) (ma : (a, W.listOf (its' ++ [v]).toArray k) ∈ news) (h : Q v s)
    (hs : subscripted slice false (.ref a) (.int (-1) u) = operate [.ref a, .int (-1) u] (getItem (.ref a) (.int (-1) u))) : wpAny (model prog w) A (subscriptTail value slice (.ref a) (.int (-1) u)) Q E s := by
  have hx : (its' ++ [v])[its'.length]? = some v := by simp
  refine kde_neg (vs := its' ++ [v]) (News.isList N ma) (by decide) (by decide) (j := its'.length) ?_ hx h hs
  rw [List.length_append, List.length_singleton]
  unfold seqIndex?
  have e : (if (-1 : Int) < 0 then (-1 : Int) + ((its'.length + 1 : Nat) : Int) else -1) = (its'.length : Int) := by rw [if_pos (by decide)]; lia
  simp only [e]
  rw [if_pos (by simp; lia)]
  rfl
theorem pair_item0 {value slice : PySem.Expr} {q : Addr} {dl : List (Addr × Obj)} {x y : Value} {n : Nat} {u : Tok} {Q : Value → Shared → Prop} (N : News h₀ L s.heap news) (hq : (q, ({ cls := .type "tuple", data := .seq [x, y].toArray n } : Obj)) ∈ dl) (sa : ∀ p ∈ dl, p ∈ news) (h : Q x s)
    (hs : subscripted slice false (.ref q) (.int 0 u) = operate [.ref q, .int 0 u] (getItem (.ref q) (.int 0 u))) : wpAny (model prog w) A (subscriptTail value slice (.ref q) (.int 0 u)) Q E s :=
  have ht : IsTup s.heap q [x, y].toArray := ⟨_, (N _ (sa _ hq)).1, rfl, _, rfl⟩
  tail_any ht.typeIs slot_tuple_getitem.lookup (getItem_tuple ht (by decide) (by decide) (j := 0) rfl rfl h) hs
theorem pair_item1 {value slice : PySem.Expr} {q : Addr} {dl : List (Addr × Obj)} {x y : Value} {n : Nat} {u : Tok} {Q : Value → Shared → Prop} (N : News h₀ L s.heap news) (hq : (q, ({ cls := .type "tuple", data := .seq [x, y].toArray n } : Obj)) ∈ dl) (sa : ∀ p ∈ dl, p ∈ news) (h : Q y s)
    (hs : subscripted slice false (.ref q) (.int 1 u) = operate [.ref q, .int 1 u] (getItem (.ref q) (.int 1 u))) : wpAny (model prog w) A (subscriptTail value slice (.ref q) (.int 1 u)) Q E s :=
  have ht : IsTup s.heap q [x, y].toArray := ⟨_, (N _ (sa _ hq)).1, rfl, _, rfl⟩
  tail_any ht.typeIs slot_tuple_getitem.lookup (getItem_tuple ht (by decide) (by decide) (j := 1) rfl rfl h) hs
theorem but_last {value slice : PySem.Expr} {a : Addr} {its' : List Value} {v vl vu : Value} {k : Nat} {Q : Value → Shared → Prop} (F : Fr h₀ L s.heap m) (N : News h₀ L s.heap news) (ma : (a, W.listOf (its' ++ [v]).toArray k) ∈ news) (hz : its'.length < 100000) (pl : IsPart vl none) (pu : IsPart vu (some (-1)))
    (h : ∀ D h', Fr h₀ L h' m → News h₀ L h' ((D, W.listOf its'.toArray 0) :: news) → (∀ p ∈ news, p.1 < D) → Q (.ref D) { s with heap := h' })
    (hs : subscripted slice false (.ref a) (.ref s.heap.objs.size) = operate [.ref s.heap.objs.size, .ref a] (getItem (.ref a) (.ref s.heap.objs.size))) (ht : ∀ r, letTemporaryGo value (.ref a) r = pure ()) :
    wpAny (model prog w) A (subscriptTail value slice (.ref a) (.ref s.heap.objs.size)) Q E { s with heap := s.heap.push { cls := .type "slice", data := .fields #[vl, vu, .none] } } := by
  refine kms_slice_lit F N (News.isList N ma) pl pu ?_ h hs ht (by rw [List.size_toArray, List.length_append, List.length_singleton, sizeLine_eq]; lia)
  exact pick_last its' v
theorem add_rows {a b : Addr} {xs ys : List Value} {ka kb : Nat} {Q : Value → Shared → Prop} (F : Fr h₀ L s.heap m) (N : News h₀ L s.heap news) (ma : (a, W.listOf xs.toArray ka) ∈ news) (mb : (b, ({ cls := .type "list", data := .seq ys.toArray kb } : Obj)) ∈ news) (hz : xs.length ≤ 100000) (hy : ys.length ≤ 10)
    (h : ∀ D h', Fr h₀ L h' m → News h₀ L h' ((D, W.listOf (xs ++ ys).toArray 0) :: news) → (∀ p ∈ news, p.1 < D) → Q (.ref D) { s with heap := h' }) : wpAny (model prog w) A (binaryOp .Add (.ref a) (.ref b)) Q E s :=
  add_lists F N (News.isList N ma) ⟨_, (N _ mb).1, rfl, _, rfl⟩ (fun h' F' N' => h _ h' F' N' fun p hp => Heap.lt_size (N p hp).1) (by rw [sizeLine_eq]; lia)
theorem units2 (env : Env) : ((LA 2).deeper env).units + 64 < cLine := by
  have := cLine_is
  show (9000 - 100 * 2) + _ + 64 < cLine
  lia
end
theorem kw_Rws_2 : True := by
  (k_with "call builtin:str.split" => first
  | (refine split_rows (by assumption) (by assumption) (by k_asm) (by k_asm) ?_; intro D9 v9 h9 k9 o9 F9 N9 l9; k_lt l9)
  | (refine split_words (by assumption) (by assumption) (by k_asm) (by k_asm) ?_; intro D9 v9 h9 k9 o9 F9 N9 l9; k_lt l9))
  (k_with "call builtin:str.partition" => k_dflt (refine part_word (by assumption) (by assumption) (by assumption) (by assumption) (by k_asm) (by k_asm) ?_; intro D9 ta9 tb9 tc9 h9 k9 F9 N9 l9; k_lt l9))
  (k_with "compareOp NotEq str str" => first | refine ne_cons ?_ | refine ne_nil ?_)
  (k_with "compareOp Eq str str" => first | refine eq_cons ?_ | refine eq_nil ?_)
  (k_with "compareOp NotEq ref ref" => k_dflt (refine' ne_row ?N ?ma ?Da ?sa ?mb ?hp ?hu ?hb ?_; (case N => k_asm); (case ma => k_mem); (case Da => assumption); (case sa => (intro p hp; simp [hp])); (case mb => k_mem); (case hp => assumption); (case hu => exact units2 _); (case hb => assumption)))
  (k_with "subscriptTail Name UnaryOp ref int" => (k_dflt ((refine' last_item ?N ?ma ?_ ?hs); (case N => k_asm); (case ma => k_mem); (case hs => with_unfolding_all rfl))))
  (k_with "subscriptTail Subscript Name UnaryOp Constant ref int" => ((with_reducible show wpAny _ _ (subscriptTail _ _ (Value.ref _) (Value.int 0 _)) _ _ _); k_dflt ((refine' pair_item0 ?N ?hq ?sa ?_ ?hs); (case N => k_asm); (case hq => assumption); (case sa => (intro p hp; simp [hp])); (case hs => with_unfolding_all rfl))))
  (k_with "subscriptTail Subscript Name UnaryOp Constant ref int" => ((with_reducible show wpAny _ _ (subscriptTail _ _ (Value.ref _) (Value.int 1 _)) _ _ _); k_dflt ((refine' pair_item1 ?N ?hq ?sa ?_ ?hs); (case N => k_asm); (case hq => assumption); (case sa => (intro p hp; simp [hp])); (case hs => with_unfolding_all rfl))))
  (k_with "subscriptTail Name Slice ref ref" => ((with_reducible show wpAny _ _ (subscriptTail _ (PySem.Expr.Slice _ _ none _) (Value.ref _) (Value.ref _)) _ _ _); k_dflt (refine' but_last ?F ?N ?ma ?hz ?pl ?pu ?_ ?hs ?ht; (case F => k_asm); (case N => k_asm); (case ma => k_mem); (case hz => lia); (case pl => kmk_part); (case pu => kmk_part); (case hs => with_unfolding_all rfl); (case ht => (intro r; with_unfolding_all rfl))); intro D9 h9 F9 N9 l9; k_lt l9))
  (k_with "binaryOp Add ref ref" => k_dflt (refine' add_rows ?F ?N ?ma ?mb ?hz ?hy ?_; (case F => k_asm); (case N => k_asm); (case ma => k_mem); (case mb => k_mem); (case hz => lia); (case hy => exact Nat.le_of_ble_eq_true rfl); intro D9 h9 F9 N9 l9; k_lt l9))
  trivial
inductive MarkV : Prop | mk
def optD (x : Wd) : Dat := match x.val with | none => .none | some v => .str (sOf v)
def VaP (h₀ : Heap) (L : Addr) (m : Str → Option Value) (news : List (Addr × Obj)) (x : Wd) (s : Shared) (v : Value) (s' : Shared) : Prop := DatIn [] v (optD x) ∧ Fr h₀ L s'.heap m ∧ News h₀ L s'.heap news ∧ s' = { s with heap := s'.heap, toks := s'.toks }
theorem cutVa {M : Model} {A : Around} {t : Sem Value} {Q : Value → Shared → Prop} {E : Value → Shared → Prop} {s : Shared} {h₀ : Heap} {L : Addr} {m : Str → Option Value} {news : List (Addr × Obj)} (x : Wd) (_ : Fr h₀ L s.heap m) (_ : News h₀ L s.heap news) (h : wpAny M A t (VaP h₀ L m news x s) E s)
    (k : ∀ v h tk, DatIn [] v (optD x) → Fr h₀ L h m → News h₀ L h news → Q v { s with heap := h, toks := tk }) : wpAny M A t Q E s :=
  wpAny_mono h (by rintro v s' ⟨d, f, n, e⟩; rw [e]; exact k v _ _ d f n) fun _ _ x => x
theorem kw_Rws_9 : True := by
  (k_with "eval IfExp" => ((with_reducible rename MarkV => hm9); clear hm9; refine Hold.mk ?_))
  trivial
theorem rows_spec (w : World) (st0 : List Wd) (more : List (List Wd)) (t : Tok) (hok : ∀ s ∈ st0 :: more, StOk s ∧ s ≠ []) (hz : (stsTxt (st0 :: more)).length ≤ 100000) (hq : ∀ s ∈ st0 :: more, ∀ x ∈ s, WdL x) :
   PureC w 2 193 [.str (sOf (stsTxt (st0 :: more))) t] [] (fun _ => True) (NewD (.list ((st0 :: more).map fun st => rowD (rowOf st)))) := by
  refine' enterP [(Str.ofString "text", .str (sOf (stsTxt (st0 :: more))) t)] ?h1 ?h2 ?h3 ?h4 ?h5 ?_ ?c2 ?c3 ?c4 ?c5
  walk_at "enter"
  intro s p' loose' mg' mb' L' h' tk' pre' F' N' X' T' P' hP'
  have hok1 : ∀ s ∈ st0 :: more, StOk s := fun s hs => (hok s hs).1
  k_steps
  unfold Hold
  refine For_invVF (by assumption) rfl rfl ?_
  k_steps
  unfold Hold
  (rename Fr _ _ _ _ => F1); (rename News _ _ _ _ => N1); (rename Strs _ _ => hv1); (rename @LT.lt Nat _ _ _ => l1)
  have hvl := Strs.length hv1
  refine loop_list (fun i m nx => RwJ (st0 :: more) i m nx) rfl (News.isList N1 (.head _)) (N1 _ (.head _)).2.1 F1 (News.sub N1 (b := [_]) fun p hp => .tail _ hp) ?_ ?_ ?_ ?_
  · intro p hp
    rw [List.mem_singleton.mp hp]; exact Nat.ne_of_lt l1
  · exact ⟨_, [], _, [], rfl, OwnOff.nil, DatAll.nil, rfl⟩
  · intro i_ v m₁ nx h tk own hi hoff hJ F₁ N₁
    refine genF fun P1 hPa => ?_
    obtain ⟨st, tv, hst, rfl⟩ := Strs.at hv1 (by simpa using hi)
    rw [List.getElem?_map] at hst
    obtain ⟨ws, hws, rfl⟩ := Option.map_eq_some_iff.mp hst
    have hwm := List.mem_of_getElem? hws
    obtain ⟨ok2, ne2⟩ := hok ws hwm
    have hq2 := hq ws hwm
    obtain ⟨x0, ws0, rfl⟩ : ∃ x0 ws0, ws = x0 :: ws0 := by
      cases ws with
      | nil => exact absurd rfl ne2
      | cons x0 ws0 => exact ⟨x0, ws0, rfl⟩
    have hz2 : (stTxt (x0 :: ws0)).length ≤ 100000 := Nat.le_trans (sts_le hwm) hz
    obtain ⟨ra, its, kr, dl, rfl, hdl, hD, hres⟩ := hJ
    replace F₁ := Fr.knownIf F₁ [(Str.ofString "rows", .ref ra)] (by simp [hres])
    simp only [List.map_cons, List.cons_append] at hoff N₁
    have ho1 : OwnOff own [ra] := OwnOff.sub hoff (by simp)
    have ho2 : OwnOff own (dl.map (·.1)) := OwnOff.sub hoff (by intro b hb; exact List.mem_cons_of_mem _ hb)
    have ho3 : OwnOff (dl ++ own) [ra] := OwnOff.app hdl ho1
    k_steps
    unfold Hold
    refine For_invVF (by assumption) rfl rfl ?_
    k_steps
    unfold Hold
    (rename Fr _ _ _ _ => F2); (rename News _ _ _ _ => N2); (rename Strs _ _ => hv2); (rename _ < _ ∧ _ < _ ∧ AllLt _ _ => l2); (rename _ < _ ∧ AllLt _ _ => l3)
    refine loop_list (fun i m nx => RwK own (x0 :: ws0) (((st0 :: more).take i_).map fun st => rowD (rowOf st)) i m nx) rfl (News.isList N2 (.head _)) (N2 _ (.head _)).2.1 F2 (News.sub N2 (b := _ :: _ :: (dl ++ own)) fun p hp => .tail _ hp) ?_ ?_ ?_ ?_
    · intro p hp e
      rcases List.mem_cons.mp hp with h | hp
      · rw [h] at e; exact Nat.ne_of_lt l2.1 e
      · rcases List.mem_cons.mp hp with h | hp
        · rw [h] at e; exact Nat.ne_of_lt l2.2.1 e
        · exact (AllLt.ne l2.2.2 p hp) e.symm
    · refine ⟨_, ra, [], its, 0, kr, dl, rfl, rfl, rfl, ⟨Nat.ne_of_gt l3.1, ?_, ?_, ho2, DatAll.nil, hD⟩⟩
      · intro p hp b hb
        rcases List.mem_cons.mp hb with rfl | hb
        · exact (AllLt.ne l3.2 p (List.mem_append.mpr (.inl hp))).symm
        · exact hdl p hp b hb
      · intro p hp b hb
        rcases List.mem_cons.mp hb with rfl | hb
        · exact (AllLt.ne l3.2 p (List.mem_append.mpr (.inr hp))).symm
        · exact ho1 p hp b hb
    · intro j v m2 nx2 h2 tk2 own2 hj hoff2 hJ2 F3 N3
      refine genF fun P2 hPb => ?_
      obtain ⟨bd, tw, hbd, rfl⟩ := Strs.at hv2 (by simpa using hj)
      rw [List.getElem?_map] at hbd
      obtain ⟨x, hx, rfl⟩ := Option.map_eq_some_iff.mp hbd
      have hxm := List.mem_of_getElem? hx
      have ox := ok2.1 x hxm
      have hxl := hq2 x hxm
      have hbz : x.body.length ≤ 100000 := Nat.le_trans (body_le hxm) hz2
      obtain ⟨qa, ra', qits, rits, kq, kr', dl', rfl, hrow, hrows, S⟩ := hJ2
      replace F3 := Fr.knownIf F3 [(Str.ofString "row", .ref qa), (Str.ofString "rows", .ref ra')] (by simp [hrow, hrows])
      have hne := S.ne
      have hoo : OwnOff (dl' ++ (own ++ own2)) [qa, ra'] := OwnOff.app S.odl (OwnOff.app S.oown (OwnOff.sub hoff2 (by simp)))
      replace hoff2 : OwnOff own2 (qa :: ra' :: (dl' ++ own).map (·.1)) := hoff2
      simp only [List.cons_append, List.append_assoc] at N3
      have hstep : ((x0 :: ws0).take (j + 1)).foldl rowStep [] = rowStep (((x0 :: ws0).take j).foldl rowStep []) x := by rw [List.take_add_one, hx, List.foldl_append]; rfl
      have hpr := fold_pr ((x0 :: ws0).take j) [] (fun p hp => nomatch hp) fun y hy => hq2 y (List.mem_of_mem_take hy)
      have hql := DatAll.length S.dp
      have hlen := fold_len ((x0 :: ws0).take j) []
      have hwl := words_le (x0 :: ws0) ok2.1
      have hqz : qits.length ≤ 100000 := by rw [List.length_map] at hql; rw [List.length_take] at hlen; simp only [List.length_nil] at hlen; lia
      generalize ((x0 :: ws0).take j).foldl rowStep [] = ps at *
      clear hlen hql
      rcases List.eq_nil_or_concat ps with rfl | ⟨ps', p, rfl⟩
      · have hq0 : qits = [] := List.length_eq_zero_iff.mp (by rw [DatAll.length S.dp]; rfl)
        subst hq0
        have hdp := S.dp
        have hie : (!([] : List Pair).isEmpty) = false := rfl
        rw [rowStep_ok (fun p h => by cases h)] at hstep
        obtain ⟨mk, hmk⟩ : ∃ mk, wMark x = mk := ⟨_, rfl⟩
        obtain ⟨re, hre⟩ : ∃ re, wRest x = re := ⟨_, rfl⟩
        have hm9 := MarkV.mk
        k_steps
        unfold Hold
        (rename Fr _ _ _ _ => F8); (rename News _ _ _ _ => N8)
        refine cutVa x F8 N8 ?_ ?_
        · cases hv : x.val with
          | none =>
            obtain rfl : mk = [] := by rw [← hmk]; unfold wMark; rw [hv]
            k_steps
            exact ⟨by unfold optD; rw [hv]; exact .none, by assumption, by assumption, rfl⟩
          | some v =>
            obtain rfl : mk = [61] := by rw [← hmk]; unfold wMark; rw [hv]
            obtain rfl : re = v := by rw [← hre]; unfold wRest; rw [hv]
            k_steps
            exact ⟨by unfold optD; rw [hv]; exact .str _ _, by assumption, by assumption, rfl⟩
        clear F8 N8
        intro v8 h8 tk8 hv8 F8 N8
        k_steps
        (rename Fr _ _ _ _ => F9); (rename News _ _ _ _ => N9); (rename _ < _ ∧ _ < _ ∧ _ < _ ∧ _ < _ ∧ AllLt _ _ => l9)
        refine endP hPb (rwk_push (kq := kq) (kr := kr') F9 N9 S ?_ l9.2.2.1 l9.2.2.2.1 l9.2.2.2.2 hoff2 (.cons (.str _ _) (.cons hv8 .nil)) (pr := (x.key, x.val)) rfl hstep rfl rfl)
        intro p hp
        simp only [List.mem_cons, List.mem_append] at hp ⊢
        rcases hp with h | h | h | h | h <;> simp [h]
      · rw [List.concat_eq_append] at *
        have hdp := S.dp
        obtain ⟨its', q, nq, tq, V, rfl, hit, hqm, hV⟩ := row_last hdp
        have hie : (!(ps' ++ [p]).isEmpty) = true := by cases ps' <;> rfl
        rw [List.length_append, List.length_singleton] at hqz
        obtain ⟨pk, pv⟩ := p
        dsimp only at hV hqm
        cases pv with
        | none =>
          cases hV
          rw [rowStep_ok (lastOk_snoc (by simp))] at hstep
          obtain ⟨mk, hmk⟩ : ∃ mk, wMark x = mk := ⟨_, rfl⟩
          obtain ⟨re, hre⟩ : ∃ re, wRest x = re := ⟨_, rfl⟩
          have hm9 := MarkV.mk
          k_steps
          unfold Hold
          (rename Fr _ _ _ _ => F8); (rename News _ _ _ _ => N8)
          refine cutVa x F8 N8 ?_ ?_
          · cases hv : x.val with
            | none =>
              obtain rfl : mk = [] := by rw [← hmk]; unfold wMark; rw [hv]
              k_steps
              exact ⟨by unfold optD; rw [hv]; exact .none, by assumption, by assumption, rfl⟩
            | some v =>
              obtain rfl : mk = [61] := by rw [← hmk]; unfold wMark; rw [hv]
              obtain rfl : re = v := by rw [← hre]; unfold wRest; rw [hv]
              k_steps
              exact ⟨by unfold optD; rw [hv]; exact .str _ _, by assumption, by assumption, rfl⟩
          clear F8 N8
          intro v8 h8 tk8 hv8 F8 N8
          k_steps
          (rename Fr _ _ _ _ => F9); (rename News _ _ _ _ => N9); (rename _ < _ ∧ _ < _ ∧ _ < _ ∧ _ < _ ∧ AllLt _ _ => l9)
          refine endP hPb (rwk_push (kq := kq) (kr := kr') F9 N9 S ?_ l9.2.2.1 l9.2.2.2.1 l9.2.2.2.2 hoff2 (.cons (.str _ _) (.cons hv8 .nil)) (pr := (x.key, x.val)) rfl hstep rfl rfl)
          intro p hp
          simp only [List.mem_cons, List.mem_append] at hp ⊢
          rcases hp with h | h | h | h | h <;> simp [h]
        | some pv =>
          cases hV
          cases pv with
          | cons c cs =>
            rw [rowStep_ok (lastOk_snoc (by simp))] at hstep
            obtain ⟨mk, hmk⟩ : ∃ mk, wMark x = mk := ⟨_, rfl⟩
            obtain ⟨re, hre⟩ : ∃ re, wRest x = re := ⟨_, rfl⟩
            have hm9 := MarkV.mk
            k_steps
            unfold Hold
            (rename Fr _ _ _ _ => F8); (rename News _ _ _ _ => N8)
            refine cutVa x F8 N8 ?_ ?_
            · cases hv : x.val with
              | none =>
                obtain rfl : mk = [] := by rw [← hmk]; unfold wMark; rw [hv]
                k_steps
                exact ⟨by unfold optD; rw [hv]; exact .none, by assumption, by assumption, rfl⟩
              | some v =>
                obtain rfl : mk = [61] := by rw [← hmk]; unfold wMark; rw [hv]
                obtain rfl : re = v := by rw [← hre]; unfold wRest; rw [hv]
                k_steps
                exact ⟨by unfold optD; rw [hv]; exact .str _ _, by assumption, by assumption, rfl⟩
            clear F8 N8
            intro v8 h8 tk8 hv8 F8 N8
            k_steps
            (rename Fr _ _ _ _ => F9); (rename News _ _ _ _ => N9); (rename _ < _ ∧ _ < _ ∧ _ < _ ∧ _ < _ ∧ AllLt _ _ => l9)
            refine endP hPb (rwk_push (kq := kq) (kr := kr') F9 N9 S ?_ l9.2.2.1 l9.2.2.2.1 l9.2.2.2.2 hoff2 (.cons (.str _ _) (.cons hv8 .nil)) (pr := (x.key, x.val)) rfl hstep rfl rfl)
            intro p hp
            simp only [List.mem_cons, List.mem_append] at hp ⊢
            rcases hp with h | h | h | h | h <;> simp [h]
          | nil =>
            rw [rowStep_mg] at hstep
            have hmk : wMark x = wMark x := rfl
            have hre : wRest x = wRest x := rfl
            k_steps
            (rename Fr _ _ _ _ => F9); (rename News _ _ _ _ => N9); (rename _ < _ ∧ _ < _ ∧ _ < _ ∧ _ < _ ∧ _ < _ ∧ _ < _ ∧ _ < _ ∧ AllLt _ _ => l9); (rename _ < _ ∧ _ < _ ∧ _ < _ ∧ _ < _ ∧ _ < _ ∧ AllLt _ _ => l8)
            refine endP hPb (rwk_renew (kr := kr') F9 N9 S hit (.tail _ (.head _)) ?_ l9.2.2.2.2.2.2.1 l8.2.2.2.2.1 l8.2.2.2.2.2 l9.2.1 l9.2.2.2.2.2.2.2 hoff2 (.cons (.str _ _) (.cons (.str _ _) .nil)) (pr := (pk, some x.body)) rfl hstep rfl rfl)
            intro p hp
            simp only [List.mem_cons, List.mem_append] at hp ⊢
            rcases hp with h | h | h | h <;> simp [h]
    · intro m2 nx2 h2 tk2 hJ2 F3 N3
      obtain ⟨qa, ra', qits, rits, kq, kr', dl', rfl, hrow, hrows, S⟩ := hJ2
      replace F3 := Fr.known F3 [(Str.ofString "row", .ref qa), (Str.ofString "rows", .ref ra')] (by simp [hrow, hrows])
      have hne := S.ne
      have hoo : OwnOff (dl' ++ own) [qa, ra'] := OwnOff.app S.odl S.oown
      have hdr := S.dr
      have hdp := S.dp
      have hvl2 := Strs.length hv2
      rw [List.size_toArray, hvl2, List.length_map, List.take_length, fold_row _ ok2.1] at hdp
      have hrz := DatAll.length hdr
      rw [List.length_map, List.length_take] at hrz
      have hsl := stretches_le st0 more hok
      have hrz2 : rits.length ≤ 100000 := by lia
      k_steps
      (rename Fr _ _ _ _ => F9); (rename News _ _ _ _ => N9)
      exact endP hPa (rwj_end F9 N9 ⟨S.ne, S.odl, S.oown, S.oo, hdp, hdr⟩ hws rfl)
  · intro m₁ nx h tk hJ F₁ N₁
    obtain ⟨ra, its, kr, dl, rfl, hdl, hD, hres⟩ := hJ
    rw [List.size_toArray, hvl, List.length_map, List.take_length] at hD
    replace F₁ := Fr.known F₁ [(Str.ofString "rows", .ref ra)] (by simp [hres])
    k_steps
    refine hP' _ _ (Done.intro (by assumption) ?_)
    exact NewD.of (by assumption) (.list (.head _) (hD.mono fun p hp => .tail _ hp))
end Mine
end
section
open PySem PySem.W PySem.Spec PySem.Calls PyProof.Rows
namespace Mine
open PyProof.Rows.LCg
set_option maxRecDepth 100000
set_option maxHeartbeats 8000000
theorem kw_Tre_0 : True := by
  k_with_none
  trivial
theorem kw_Tre_1 : True := by
  (k_with "isTrue BoolOp" => ((with_reducible rename MarkB => hm9); clear hm9; refine HoldB.mk ?_))
  (k_with "execs cons" => ((with_reducible show wpAny _ _ (execs (_ :: _) _) _ _ ⟨_, _, _, HAdd.hAdd _ _, _⟩); (try dsimp only); refine dropT ?_; intro tk9))
  (k_with "enterC" => ((case h1 => k_is); (case h2 => k_is); (case h3 => first | decide | (show 900 - 10 * _ < 1000; omega)); (case h4 => first | exact fun _ _ => BindsTo.of_eq rfl | exact fun _ kn => kp_binds kn.X (fun _ => rfl)); (case h5 => exact rfl); (case c5 => decide +kernel);  (case c2 => exact rfl); (case c3 => exact rfl); (case c4 => exact rfl)))
  (k_with "exec For Name Subscript cons nil" => ((with_reducible show wpAny _ _ (exec (Stmt.For _ _ _ _ _) _) _ _ _); refine Hold.mk ?_))
  (k_with "exec For" => ((with_reducible show wpAny _ _ (exec (Stmt.For _ _ _ _ _) _) _ _ _); refine Hold.mk ?_))
  (k_with "pyIter ref" => (refine Hold.mk ?_))
  trivial
theorem ints_at : ∀ {vs : List Value} {ns : List Int}, IntsAre vs ns → ∀ {i : Nat} {v : Value}, vs[i]? = some v → ∃ x t, v = .int x t ∧ ns[i]? = some x
  | _, _, .nil, i, v, h => by simp at h
  | _, _, .cons x t r, i, v, h => by
    cases i with
    | zero => simp at h; subst h; exact ⟨x, t, rfl, by simp⟩
    | succ i => simp at h; obtain ⟨y, u, e, hy⟩ := ints_at r h; exact ⟨y, u, e, by simpa using hy⟩
theorem kw_Tre_2 : True := by
  (k_with "subscriptTail Name UnaryOp ref int" => (k_dflt ((refine' last_item ?N ?ma ?_ ?hs); (case N => k_asm); (case ma => k_mem); (case hs => with_unfolding_all rfl))))
  (k_with "CompSrc" => refine Hold.mk ?_)
  (k_with "binaryOp Pow int int" => ((with_reducible refine pow_int_small ?kb1 ?kb2 ?kb3 ?_); (case kb1 => lia); (case kb2 => lia); (case kb3 => decide)))
  (k_with "binaryOp FloorDiv int int" => ((with_reducible show wpAny _ _ (binaryOp _ (Value.int _ _) (Value.int (256 ^ _) _)) _ _ _); (with_reducible refine floordiv_int ?kbe ?_ (Or.inl (PyProof.noPylong_of_log2 ?kbp))); (case kbe => exact (powB 256 (by decide) (by lia)).1); (case kbp => exact (powB 256 (by decide) (by lia)).2)))
  (k_with "call builtin:list.pop cons nil" => refine Hold.mk ?_)
  (k_with "eval ListComp" => refine Hold.mk ?_)
  trivial
theorem len_opn {prog : Program} {w : World} {A : Around} {E : Value → Shared → Prop} {s : Shared} {h₀ : Heap} {L : Addr} {news : List (Addr × Obj)} {a am : Addr} {refs : List Value} {k d : Nat} {Q : Value → Shared → Prop} (N : News h₀ L s.heap news) (ma : (a, W.listOf (refs ++ [Value.ref am]).toArray k) ∈ news) (hd : refs.length = d) (hz : d ≤ 3)
    (h : Q (.int ((d : Int) + 1) (s.toks + 1)) { s with toks := s.toks + 1 + 1 }) : wpAny (model prog w) A (call (.builtin "len") [.ref a]) Q E s := by
  have e : ((refs ++ [Value.ref am]).toArray.size : Int) = (d : Int) + 1 := by rw [List.size_toArray, List.length_append, List.length_singleton, hd]; rfl
  exact len_list (News.isList N ma) (by rw [e]; lia) (by rw [e]; exact h)
theorem kw_Tre_3 : True := by
  (k_with "call builtin:len cons nil" => k_dflt ((refine' len_opn ?N ?ma ?hd ?hz ?_); (case N => k_asm); (case ma => k_mem); (case hd => assumption); (case hz => assumption)))
  trivial
theorem cnt6 {x : Int} : ∃ c : Nat, (x.fdiv 4).fmod 6 = (c : Int) ∧ c ≤ 5 := by
  have h0 : 0 ≤ (x.fdiv 4).fmod 6 := by rw [Int.fmod_eq_emod_of_nonneg _ (by decide)]; lia
  have h1 : (x.fdiv 4).fmod 6 < 6 := by rw [Int.fmod_eq_emod_of_nonneg _ (by decide)]; lia
  exact ⟨((x.fdiv 4).fmod 6).toNat, by lia, by lia⟩
theorem fmod256 {x : Int} : 0 ≤ x.fmod 256 ∧ x.fmod 256 < 256 := by
  rw [Int.fmod_eq_emod_of_nonneg _ (by decide)]; lia
theorem tree_spec (w : World) (ax : Addr) (vs : List Value) (ns : List Int) (hI : IntsAre vs ns) (hn : vs.length ≤ 63) :
   PureC w 12 176 [.ref ax] [] (fun h => h.IsList ax vs.toArray) (fun h h' v => ∃ ts, Le 4 (.node ts) ∧ wt (.node ts) ≤ 11 ∧ NewD (srtD 0 (.node ts)) h h' v) := by
  refine' enterC [(Str.ofString "script", .ref ax)] ?h1 ?h2 ?h3 ?h4 ?h5 ?c5 ?_ ?c2 ?c3 ?c4
  walk_at "enterC"
  intro s p' loose' mg' mb' L' h' tk' cells' pre' F' N' Y' X' T' P' hP'
  k_cells Y'
  k_steps
  unfold Hold
  refine For_gen (h₀ := s.heap) ?_
  k_steps
  unfold Hold
  (rename Fr _ _ _ _ => F1); (rename News _ _ _ _ => N1); (rename IntsAre _ (List.take 10 ns) => hI1); (rename _ < _ ∧ _ < _ ∧ _ < _ => l1); 
  refine gen_list (fun i m nx => TreJ (L' + 1) i m nx) rfl (News.isList N1 (.head _)) (N1 _ (.head _)).2.1 F1 (News.sub N1 (b := [_, _, _]) fun p hp => .tail _ hp) ?_ ?_ ?_ ?_
  · intro p hp
    simp only [List.mem_cons, List.not_mem_nil, or_false] at hp
    rcases hp with h | h | h
    · rw [h]; exact Nat.ne_of_lt l1.1
    · rw [h]; exact Nat.ne_of_lt l1.2.1
    · rw [h]; exact Nat.ne_of_lt l1.2.2
  · refine ⟨_, _, _, 0, _, _, [], [], [], [], [], [], _, _, rfl, by assumption, rfl, rfl, ⟨.root, by lia, .nil, fun t h => absurd h (by simp), by simp [wts, wtc], ?_, fun p hp => absurd hp (by simp), fun p hp => absurd hp (by simp), fun p hp => absurd hp (by simp)⟩⟩
    simp only [List.map_nil, List.nodup_cons, List.mem_cons, List.not_mem_nil, or_false, not_or, List.nodup_nil, not_false_eq_true, and_true]
    (rename _ < _ ∧ _ < _ => l2)
    exact ⟨⟨Nat.ne_of_gt l2.1, Nat.ne_of_gt l2.2⟩, Nat.ne_of_gt (by assumption)⟩
  · intro i v m₁ nx h tk own hi hoff hJ F₁ N₁
    refine genA fun P1 hPa => ?_
    obtain ⟨x, tx, rfl, hx⟩ := ints_at hI1 (by simpa using hi)
    have hi10 : i < 10 := by
      have h1 := (List.getElem?_eq_some_iff.mp hx).1
      rw [List.length_take] at h1; lia
    obtain ⟨a0, op, am, d, kop, km, ofs, tl, refs, vsm, tsm, tss, oc, vc, rfl, hoc, hop, hfi, S⟩ := hJ
    replace F₁ := Fr.known F₁ [(Str.ofString "opened", .ref op), (Str.ofString "first", .ref a0)] (by simp [hop, hfi])
    replace S := S.own hoff
    obtain ⟨hoo, hn1, hn2, hn3⟩ := S.off
    have hrl := S.ch.len
    have hd3 := S.d3
    have hvl := DatAll.length S.dm
    rw [rawDs_eq, List.length_map] at hvl
    have hvw := wts_len tsm
    have hw := S.wt
    have hvz : vsm.length ≤ 1000 := by lia
    simp only [List.cons_append, List.append_assoc] at N₁
    clear hi hI1
    have hm9 := MarkB.mk
    k_steps
    unfold HoldB
    refine cutBo (decide (x.fmod 4 = 0 ∧ (d : Int) + 1 < 4)) ?_ fun tk1 => ?_
    · k_steps
      all_goals exact ⟨by simp; lia, rfl⟩
    by_cases hb1 : x.fmod 4 = 0 ∧ (d : Int) + 1 < 4
    · rw [decide_eq_true hb1]
      k_steps
      (rename Fr _ _ _ _ => F9); (rename News _ _ _ _ => N9); (rename _ < _ ∧ _ < _ ∧ _ < _ ∧ AllLt _ _ => l9)
      obtain ⟨l5, l6, l7, l8⟩ := l9
      have S9 := S.op (k := km + 1) (by lia) l5 l6 l7 (by simpa only [List.append_assoc] using l8)
      simp only [← Array.toList_push, List.push_toArray] at N9
      refine endP hPa (TreJ_end F9 N9 S9 (by assumption) rfl rfl (.tail _ (.head _)) (.head _) (.tail _ (.tail _ (.tail _ (.head _)))) fun p hp => ?_)
      rcases List.mem_cons.mp hp with rfl | hp
      · exact .tail _ (.tail _ (.head _))
      · exact .tail _ (.tail _ (.tail _ (.tail _ hp)))
    rw [decide_eq_false hb1]
    have hm9 := MarkB.mk
    k_steps
    unfold HoldB
    refine cutBo (decide (x.fmod 4 = 1 ∧ 1 < (d : Int) + 1)) ?_ fun tk2 => ?_
    · k_steps
      all_goals exact ⟨by simp; lia, rfl⟩
    by_cases hb2 : x.fmod 4 = 1 ∧ 1 < (d : Int) + 1
    · rw [decide_eq_true hb2]
      k_steps
      unfold Hold
      (rename Fr _ _ _ _ => F9); (rename News _ _ _ _ => N9)
      show wpAny _ _ (call (.builtin "list.pop") [.ref op]) _ _ _
      refine pop_opn F9 N9 (by lia) fun k' => ⟨_, .head ?_, fun h9 F8 N8 => ?_⟩
      · intro p hp
        rcases List.mem_cons.mp hp with rfl | hp
        · exact fun e => hn1 e.symm
        · rcases List.mem_cons.mp hp with rfl | hp
          · exact fun e => hn2 e.symm
          · exact hoo p hp _ (by simp)
      · obtain ⟨a, vs9, k9, ofs', refs', ts, tss', d', rfl, rfl, S9⟩ := S.pop (km := km) (by lia)
        k_steps
        refine endP hPa (TreJ_end F8 N8 S9 (by assumption) rfl rfl (.head _) (.tail _ (.tail _ (.tail _ (.head _)))) (.tail _ (.tail _ (.head _))) fun p hp => ?_)
        simp only [List.mem_append, List.mem_cons] at hp ⊢
        rcases hp with h | (h | h) | h
        · simp [h]
        · simp [h]
        · simp [h]
        · simp [h]
    rw [decide_eq_false hb2]
    k_steps
    unfold Hold
    (rename Obj => oX); (rename oX.data = _ => dX)
    (rename Fr _ _ _ _ => F2)
    refine LCg.ListComp_U (F₀ := F2) (by with_unfolding_all rfl) (by decide) (by rfl) (by decide) (by rfl) ?_
    k_steps
    unfold Hold
    (rename Fr _ _ _ _ => F3); (rename News _ _ _ _ => N3)
    obtain ⟨c, hc, hc5⟩ := cnt6 (x := x)
    refine LCg.CompSrc.range (n := c) rfl F3 N3 (by assumption) ?_ ?_ ?_ fun g => ?_
    · rw [hc]; exact small_ok (by lia)
    · rw [hc]; exact size_ok
    · rw [sizeLine_eq]; lia
    · refine comp_ind (fun i ys news => news = (op, W.listOf (refs ++ [Value.ref am]).toArray kop) :: (am, W.listOf vsm.toArray km) :: (L' + 1, oX) :: (ofs ++ (tl ++ own)) ∧ ∃ ks : List Int, IntsAre ys ks ∧ ks.length = i ∧ ∀ k ∈ ks, 0 ≤ k ∧ k < 256) ⟨rfl, [], .nil, rfl, fun k h => absurd h (by simp)⟩ ?_ ?_
      · intro i ys news v I' oI' C' oC' D' m' h' tk' E' hi hv hj hC' hx' F' N' off' ne'
        obtain ⟨rfl, ks, hI9, hl9, hr9⟩ := hj
        obtain ⟨tv, rfl⟩ := hv
        k_steps
        (rename Fr _ _ _ _ => F9); (rename News _ _ _ _ => N9)
        refine LCg.CompEnd.intro F9 N9 _ (fun p hp => hp) off' trivial ⟨rfl, _, PyProof.Rows.IntsAre.append hI9 (.cons _ _ .nil), by simp [hl9], ?_⟩
        intro k hk
        rcases List.mem_append.mp hk with hk | hk
        · exact hr9 k hk
        · rw [List.mem_singleton.mp hk]; exact fmod256
      · intro ys news hj
        obtain ⟨rfl, ks, hI9, hl9, hr9⟩ := hj
        unfold LCg.FinE
        intro D9 h9 tk9 F9 N9 o9
        k_steps
        (rename Fr _ _ _ _ => F8); (rename News _ _ _ _ => N8)
        replace N8 := News.sub N8 (b := (op, W.listOf (refs ++ [Value.ref am]).toArray kop) :: (am, W.listOf vsm.toArray km) :: (L' + 1, oX) :: (ofs ++ (tl ++ own))) fun p hp => .tail _ hp
        clear N9
        k_steps
        (rename Fr _ _ _ _ => F7); (rename News _ _ _ _ => N7)
        simp only [List.push_toArray] at N7
        refine endP hPa (TreJ_end F7 N7 (S.leaf (by rw [byteArr_size]; lia)) dX rfl rfl (.head _) (.tail _ (.head _)) (.tail _ (.tail _ (.head _))) fun p hp => .tail _ (.tail _ (.tail _ hp)))
  · intro m₁ nx h tk hJ F₁ N₁
    obtain ⟨a0, op, am, d, kop, km, ofs, tl, refs, vsm, tsm, tss, oc, vc, rfl, hoc, hop, hfi, S⟩ := hJ
    replace F₁ := Fr.known F₁ [(Str.ofString "opened", .ref op), (Str.ofString "first", .ref a0)] (by simp [hop, hfi])
    obtain ⟨ts0, e1, e2, e3⟩ := S.ch.close (L := (op, W.listOf (refs ++ [Value.ref am]).toArray kop) :: (am, W.listOf vsm.toArray km) :: (L' + 1, oc) :: (ofs ++ tl)) (tsm := tsm) (.list (.tail _ (.head _)) (S.dm.mono fun p hp => by simp [hp])) S.lem S.d3 (fun p hp => by simp [hp]) (fun p hp => by simp [hp])
    have hw := S.wt
    have hl1 := hI1.length
    rw [List.length_take] at hl1
    have e4 : wt (.node ts0) ≤ 11 := by rw [e3, wt]; simp only [List.size_toArray] at hw; lia
    k_steps
    (rename Fr _ _ _ _ => F2); (rename News _ _ _ _ => N2)
    refine PureC.use (srt_spec w 4 (.node ts0) 0 (.ref a0) _ (by lia) e2 (by lia)) F2 N2 (by assumption) (by assumption) (loD (by lia) (by lia) _) ⟨_, fun p hp => (N2 p hp).1, e1⟩ ?_
    intro v9 h9 tk9 F9 N9 k9 o9
    k_steps
    obtain ⟨nw, hf, hd9⟩ := o9
    exact hP' _ _ (Done.intro (by assumption) ⟨ts0, e2, e4, NewD.of (Fresh.news F2 hf) hd9⟩)
end Mine
end
section
open PySem PySem.W PySem.Spec PySem.Calls PyProof.Rows
namespace Mine
open PyProof.Rows.LCg
set_option maxRecDepth 100000
set_option maxHeartbeats 8000000
local macro_rules | `(tactic| walk_at "pyIter ref") => `(tactic| (refine Hold.mk ?_))
local macro_rules | `(tactic| walk_at "pyIter str") => `(tactic| (refine Hold.mk ?_))
theorem kw_Reb_0 : True := by
  k_with_none
  trivial
theorem kw_Reb_1 : True := by
  (k_with "execs cons" => ((with_reducible show wpAny _ _ (execs (_ :: _) _) _ _ ⟨_, _, _, HAdd.hAdd _ _, _⟩); (try dsimp only); refine dropT ?_; intro tk9))
  (k_with "enter" => ((case h1 => k_is); (case h2 => k_is); (case h3 => first | decide | (show 900 - 10 * _ < 1000; omega)); (case h4 => first | exact fun _ _ => BindsTo.of_eq rfl | exact fun _ kn => kp_binds kn.X (fun _ => rfl)); (case h5 => exact locs rfl); (case c5 => decide);  (case c2 => exact rfl); (case c3 => exact rfl); (case c4 => exact rfl)))
  (k_with "exec For" => ((with_reducible show wpAny _ _ (exec (Stmt.For _ _ _ _ _) _) _ _ _); refine Hold.mk ?_))
  (k_with "last pyIter str" => (refine Hold.mk ?_))
  (k_with "binaryOp Add str str" => (refine' add_gen ?hx ?hy ?hl ?_; (case hx => first | exact lit_e | exact rfl); (case hy => first | exact lit_e | exact rfl); (case hl => ((try simp only [List.length_append, List.length_cons, List.length_nil]); lia)); intro t9 k9))
  trivial
section
variable {w : World} {A : Around} {E : Value → Shared → Prop} {s : Shared} {c d : Nat} {y : Str} {t u : Tok} {Q : Value → Shared → Prop}
theorem eqC_t (hy : y = ⟨#[c]⟩) (h : Q (.bool true) s) : wpAny (model prg w) A (compareOp .Eq (.str ⟨#[c]⟩ t) (.str y u)) Q E s := by
  refine eq_str ?_
  rw [hy, beq_self_eq_true]; exact h
theorem eqC_f (hy : y = ⟨#[d]⟩) (hc : c ≠ d) (h : Q (.bool false) s) : wpAny (model prg w) A (compareOp .Eq (.str ⟨#[c]⟩ t) (.str y u)) Q E s := by
  refine eq_str ?_
  have e : ((⟨#[c]⟩ : Str) == y) = false := beq_eq_false_iff_ne.mpr fun e => by
    rw [hy] at e
    injection e with e
    exact hc (by simpa using e)
  rw [e]; exact h
theorem inC {x y : Str} {b : Bool} (hb : (!(Builtin.Str.occurrences y x 0 y.length 1).isEmpty) = b) (h : Q (.bool b) s) : wpAny (model prg w) A (compareOp .In (.str x t) (.str y u)) Q E s := by
  refine in_str ?_
  rw [hb]; exact h
theorem in91 : (!(Builtin.Str.occurrences (Str.ofString "[(") ⟨#[91]⟩ 0 (Str.ofString "[(").length 1).isEmpty) = true := by decide +kernel
theorem in40 : (!(Builtin.Str.occurrences (Str.ofString "[(") ⟨#[40]⟩ 0 (Str.ofString "[(").length 1).isEmpty) = true := by decide +kernel
theorem in93 : (!(Builtin.Str.occurrences (Str.ofString "[(") ⟨#[93]⟩ 0 (Str.ofString "[(").length 1).isEmpty) = false := by decide +kernel
theorem in41 : (!(Builtin.Str.occurrences (Str.ofString "[(") ⟨#[41]⟩ 0 (Str.ofString "[(").length 1).isEmpty) = false := by decide +kernel
theorem add_fig {f : List Nat} {Q : Value → Shared → Prop} (hl : f.length ≤ 100000) (h : ∀ t' tk, Q (.str (sOf (f ++ [c])) t') { s with toks := tk }) : wpAny (model prg w) A (binaryOp .Add (.str (sOf f) t) (.str ⟨#[c]⟩ u)) Q E s := by
  show wpAny _ _ (binaryOp .Add (.str (sOf f) t) (.str (sOf [c]) u)) Q E s
  exact add_gen rfl rfl (by simp only [List.length_singleton]; lia) h
end
theorem kw_Reb_2 : True := by
  (k_with "binaryOp Add str str" => (dsimp only; (with_reducible refine add_fig ?hl ?_); (case hl => assumption); intro t9 k9))
  trivial
theorem lit_q1 : Str.ofString "'" = ⟨#[39]⟩ := lit_q
theorem lit_p3' : Str.ofString ")" = ⟨#[41]⟩ := lit_p2
theorem first_item {w : World} {A : Around} {E : Value → Shared → Prop} {s : Shared} {h₀ : Heap} {L : Addr} {news : List (Addr × Obj)} {value slice : PySem.Expr} {a : Addr} {v : Value} {k : Nat} {u : Tok} {Q : Value → Shared → Prop} (N : News h₀ L s.heap news) (ma : (a, W.listOf ([] ++ [v]).toArray k) ∈ news) (h : Q v s)
    (hs : subscripted slice false (.ref a) (.int 0 u) = operate [.ref a, .int 0 u] (getItem (.ref a) (.int 0 u))) : wpAny (model prg w) A (subscriptTail value slice (.ref a) (.int 0 u)) Q E s :=
  tail_any (News.isList N ma).typeIs slot_list_getitem.lookup (getItem_listL (News.isList N ma) (by decide) (by decide) rfl h) hs
theorem kw_Reb_3 : True := by
  (k_with "compareOp Eq str str" => k_dflt (first | (with_reducible refine eqC_t lit_q1 ?_) | (with_reducible refine eqC_t lit_p3' ?_) | ((with_reducible refine eqC_f lit_q1 ?hc ?_); (case hc => first | assumption | decide)) | ((with_reducible refine eqC_f lit_p3' ?hc ?_); (case hc => first | assumption | decide))))
  (k_with "subscriptTail Name Constant ref int" => (k_dflt ((refine' first_item ?N ?ma ?_ ?hs); (case N => k_asm); (case ma => k_mem); (case hs => with_unfolding_all rfl))))
  (k_with "subscriptTail Name UnaryOp ref int" => (k_dflt ((refine' last_item ?N ?ma ?_ ?hs); (case N => k_asm); (case ma => k_mem); (case hs => with_unfolding_all rfl))))
  (k_with "call builtin:list.pop cons nil" => refine Hold.mk ?_)
  (k_with "compareOp In str str" => k_dflt (first | (with_reducible refine inC in91 ?_) | (with_reducible refine inC in40 ?_) | (with_reducible refine inC in93 ?_) | (with_reducible refine inC in41 ?_)))
  (k_with "pureuse" => ((case kF => k_asm); (case kN => k_asm); (case kX => k_asm); (case kT => k_asm); (case lo => exact ⟨rfl, rfl, Nat.le_of_ble_eq_true rfl, Nat.le_of_ble_eq_true rfl⟩); k_whole))
  (k_with "call ref" => ((try dsimp only); (with_reducible show wpAny _ _ (call (Value.ref 158) [Value.str _ _, Value.bytes _ _, Value.bool _] _) _ _ _); (refine' PureC.use (b64decode_spec _ _ _ _ _ _ _ ?z6 ?z7 ?z8 ?p9) ?kF ?kN ?kX ?kT ?lo trivial ?_; (case z6 => assumption); (case p9 => assumption); (case z7 => assumption); (case z8 => assumption); walk_at "pureuse"); (intro v9 h9 tk9 F9 N9 k9 o9; obtain ⟨t9, e9⟩ := o9; subst e9; clear k9; (try dsimp only))))
  trivial
theorem RebS.off {op am : Addr} {ofs tl own : List (Addr × Obj)} {refs vsm : List Value} {cur : List Dat} {outs : List (List Dat)} (S : RebS op am ofs tl own refs vsm cur outs) : OwnOff (ofs ++ (tl ++ own)) [op, am] ∧ (@Ne Nat op am) := by
  have nd := S.nd
  simp only [List.nodup_cons, List.mem_cons, not_or] at nd
  obtain ⟨⟨n1, n2⟩, n3, n4⟩ := nd
  refine ⟨OwnOff.app ?_ (OwnOff.app (OwnOff.sub S.otl (by simp)) (OwnOff.sub S.oown (by simp))), n1⟩
  intro p hp b hb e
  have hm : p.1 ∈ ofs.map (·.1) := List.mem_map.mpr ⟨p, hp, rfl⟩
  simp only [List.mem_cons, List.not_mem_nil, or_false] at hb
  rcases hb with rfl | rfl
  · exact n2 (e ▸ hm)
  · exact n3 (e ▸ hm)
theorem mem_mid {α : Type} {p y : α} {x z w : List α} (h : p ∈ x ++ (y :: z ++ w)) : p ∈ y :: (x ++ (z ++ w)) := by
  rcases List.mem_append.mp h with h | h
  · exact .tail _ (List.mem_append.mpr (.inl h))
  · rcases List.mem_cons.mp h with rfl | h
    · exact .head _
    · exact .tail _ (List.mem_append.mpr (.inr h))
theorem kw_Reb_4 : True := by
  (k_with "call type:tuple cons nil" => (k_dflt (refine' kde_tupleOf ?k1 ?k2 ?k3 ?k4 rfl ?_; (case k1 => k_asm); (case k2 => k_asm); (case k3 => exact News.isList (by k_asm) (by k_mem)); (case k4 => assumption)); intro D' h' F' N' l1; k_lt l1))
  trivial
inductive HoldMark : Prop | mk
theorem kw_Reb_5 : True := by
  (k_with "eval IfExp" => ((with_reducible rename HoldMark => hm9); clear hm9; refine Hold.mk ?_))
  trivial
def WrdP (h4 : Heap) (W : List Nat) (s : Shared) (v : Value) (s' : Shared) : Prop := ∃ t9 tk9, v = .str (sOf W) t9 ∧ s' = { s with heap := h4, toks := tk9 }
theorem cutS {M : Model} {A : Around} {t : Sem Value} {Q : Value → Shared → Prop} {E : Value → Shared → Prop} {s : Shared} (P : Value → Shared → Prop) (h : wpAny M A t P E s) (k : ∀ v s', P v s' → Q v s') : wpAny M A t Q E s := wpAny_mono h k fun _ _ x => x
theorem old_ne {h₀ h : Heap} {L a : Addr} {m : Str → Option Value} {o : Obj} (F : Fr h₀ L h m) (e : h₀.get? a = some o) : a ≠ L := Nat.ne_of_lt (Nat.lt_of_lt_of_le (Heap.lt_size e) F.above)
theorem old_off {h₀ h : Heap} {L a : Addr} {news : List (Addr × Obj)} {o : Obj} (N : News h₀ L h news) (e : h₀.get? a = some o) : ∀ p ∈ news, p.1 ≠ a := by
  intro p hp e1
  have h2 := (N p hp).2.2
  rw [e1, e] at h2; cases h2
theorem rebuilt_spec (w : World) (al : Array UInt8) (u : Tok) (hal : al = #[43, 47] ∨ al = #[45, 95]) (rows : List (List Pair)) (cur : List Dat) (v : Value)
   (hr : RRun (FigOk al) ⟨none, [], []⟩ (rows.flatMap rowTxt) ⟨none, cur, []⟩) (hz : (rows.flatMap rowTxt).length ≤ 10000) :
   PureC w 4 200 [v, .bytes al u] [] (fun h => AtD h v (.list (rows.map rowD))) (NewD (.list cur)) := by
  refine' enterP [(Str.ofString "rows", v), (Str.ofString "altchars", .bytes al u)] ?h1 ?h2 ?h3 ?h4 ?h5 ?_ ?c2 ?c3 ?c4 ?c5
  walk_at "enter"
  intro s p' loose' mg' mb' L' h' tk' pre' F' N' X' T' P' hP'
  obtain ⟨ax, vs, nn, nw, rfl, hget, hnw, hall⟩ := AtD.list pre'
  k_steps
  unfold Hold
  refine For_gen (h₀ := s.heap) ?_
  k_steps
  unfold Hold
  (rename Fr _ _ _ _ => F1); (rename News _ _ _ _ => N1); (rename _ < _ => l1)
  have hlr := DatAll.length hall
  refine gen_list (fun i m nx => RebJ al u ⟨none, cur, []⟩ [] ((rows.drop i).flatMap rowTxt) m nx) rfl ⟨_, F1.keep _ _ hget, rfl, _, rfl⟩ ?_ F1 N1 ?_ ?_ ?_ ?_
  · exact old_ne F1 hget
  · exact old_off N1 hget
  · refine ⟨_, _, _, _, [], [], [], [], ⟨none, [], []⟩, .none, rfl, rfl, rfl, rfl, rfl, ⟨.nil, .nil, ?_, fun p hp => absurd hp (by simp), fun p hp => absurd hp (by simp), fun p hp => absurd hp (by simp)⟩, hr, by simp only [RSt.sz, List.length_nil, List.map_nil, List.sum_nil, List.drop_zero]; lia⟩
    simp only [List.map_nil, List.nodup_cons, List.mem_cons, List.not_mem_nil, or_false, not_or, List.nodup_nil, not_false_eq_true, and_true]
    exact Nat.ne_of_gt l1
  · intro i v m₁ nx h tk own hi hoff hJ F₁ N₁
    refine genA fun P1 hPa => ?_
    obtain ⟨op, am, kop, km, ofs, tl, refs, vsm, st, fv, rfl, hop, hfi, hal1, hv1, S, hr1, hz1⟩ := hJ
    replace F₁ := Fr.known F₁ [(Str.ofString "opened", .ref op), (Str.ofString "figures", fv), (Str.ofString "altchars", .bytes al u)] (by simp [hop, hfi, hal1])
    obtain ⟨dv, hdv, hin⟩ := DatAll.at hall (by simpa using hi)
    rw [List.getElem?_map] at hdv
    obtain ⟨ps, hps, rfl⟩ := Option.map_eq_some_iff.mp hdv
    obtain ⟨ra, rvs, rn, rw', rfl, hrget, hrw, hrall⟩ := AtD.list (v := v) (h := s.heap) (ds := ps.map pairD) ⟨nw, hnw, hin⟩
    k_steps
    unfold Hold
    refine For_gen (h₀ := s.heap) ?_
    k_steps
    unfold Hold
    (rename Fr _ _ _ _ => F2); (rename News _ _ _ _ => N2)
    have hl2 := DatAll.length hrall
    rw [List.length_map] at hl2
    have hps' : (rows.drop i).flatMap rowTxt = rowTxt ps ++ (rows.drop (i + 1)).flatMap rowTxt := by
      rw [List.drop_eq_getElem_cons (List.getElem?_eq_some_iff.mp hps).1, List.flatMap_cons, (List.getElem?_eq_some_iff.mp hps).2]
    rw [hps'] at hr1 hz1
    have hoff0 : OwnOff own (([] : List (Addr × Obj)).map (·.1)) := fun p hp b hb => absurd hb (by simp)
    have hoff' : OwnOff own (op :: am :: (ofs ++ tl).map (·.1)) := OwnOff.sub hoff (by intro b hb; simpa using hb)
    replace S := S.moreown hoff'
    rw [List.nil_append] at S
    refine gen_list (fun j m nx => RebJ al u ⟨none, cur, []⟩ own ((ps.drop j).flatMap pairTxt ++ (rows.drop (i + 1)).flatMap rowTxt) m nx) rfl ⟨_, F2.keep _ _ hrget, rfl, _, rfl⟩ (old_ne F2 hrget) F2 N2 (old_off N2 hrget) ?_ ?_ ?_
    · refine ⟨op, am, kop, km, ofs, tl, refs, vsm, st, fv, by simp, rfl, rfl, rfl, hv1, S, hr1, hz1⟩
    · intro j v m2 nx2 h2 tk2 own2 hj hoff2 hJ2 F3 N3
      refine genA fun P2 hPb => ?_
      obtain ⟨op, am, kop, km, ofs, tl, refs, vsm, st, fv, rfl, hop, hfi, hal1, hv1, S, hr1, hz1⟩ := hJ2
      replace F3 := Fr.known F3 [(Str.ofString "opened", .ref op), (Str.ofString "figures", fv), (Str.ofString "altchars", .bytes al u)] (by simp [hop, hfi, hal1])
      obtain ⟨dv, hdv, hin⟩ := DatAll.at hrall (by simpa using hj)
      rw [List.getElem?_map] at hdv
      obtain ⟨pr, hpr, rfl⟩ := Option.map_eq_some_iff.mp hdv
      obtain ⟨ky, vl⟩ := pr
      rw [pairD] at hin
      obtain ⟨ta, tvs, tn, tw, rfl, htget, htw, htall⟩ := AtD.tuple (h := s.heap) ⟨rw', hrw, hin⟩
      cases htall with
      | cons h1 h2 =>
        cases h2 with
        | cons h3 h4 =>
          cases h4
          cases h1
          rename_i t1 v2
          have hget3 := F3.keep _ _ htget
          have hT : IsTup h2 ta #[Value.str (sOf ky) v2, t1] := ⟨_, hget3, rfl, _, rfl⟩
          have hps2 : (ps.drop j).flatMap pairTxt = pairTxt (ky, vl) ++ (ps.drop (j + 1)).flatMap pairTxt := by
            rw [List.drop_eq_getElem_cons (List.getElem?_eq_some_iff.mp hpr).1, List.flatMap_cons, (List.getElem?_eq_some_iff.mp hpr).2]
          rw [hps2, List.append_assoc] at hr1 hz1
          have hpl : (pairTxt (ky, vl)).length ≤ 100000 := by rw [List.length_append] at hz1; lia
          clear hT hi hj hdv hpr
          have hT : IsTup h2 ta #[Value.str (sOf ky) v2, t1] := ⟨_, hget3, rfl, _, rfl⟩
          have hoffb : OwnOff own2 (own.map (·.1)) := OwnOff.sub hoff2 (by intro b hb; simp only [List.map_cons, List.map_append, List.mem_cons, List.mem_append]; exact .inr (.inr (.inr (.inr hb))))
          have hoffc : OwnOff own2 (op :: am :: (ofs ++ tl).map (·.1)) := OwnOff.sub hoff2 (by intro b hb; simp only [List.map_cons, List.map_append, List.mem_cons, List.mem_append] at hb ⊢; rcases hb with h | h | h | h <;> simp [h])
          have S2 := S.moreown hoffc
          have hm9 := HoldMark.mk
          k_steps
          unfold Hold
          (rename Heap => h4)
          refine cutS (P := WrdP h4 (pairTxt (ky, vl)) s) ?_ ?_
          · rcases vl with _ | vl
            · cases h3
              k_steps
              exact ⟨_, _, congrArg (Value.str · _) (by simp [pairTxt]), rfl⟩
            · cases h3
              have hpl2 : ky.length + vl.length + 1 ≤ 100000 := by simp [pairTxt] at hpl; lia
              k_steps
              exact ⟨_, _, congrArg (Value.str · _) (by simp [pairTxt]), rfl⟩
          rintro v4 s4 ⟨t9, tk9, rfl, rfl⟩
          clear h3
          generalize pairTxt (ky, vl) = W at *
          k_steps
          unfold Hold
          refine For_invVF (by assumption) rfl rfl ?_
          k_steps
          unfold Hold
          (rename Fr _ _ _ _ => F4); (rename News _ _ _ _ => N4)
          refine loop_str (fun k m nx => RebJ al u ⟨none, cur, []⟩ (own ++ own2) (W.drop k ++ ((ps.drop (j + 1)).flatMap pairTxt ++ (rows.drop (i + 1)).flatMap rowTxt)) m nx) rfl F4 N4 ?_ ?_ ?_
          · exact ⟨op, am, kop, km, ofs, tl, refs, vsm, st, fv, by simp, rfl, rfl, rfl, hv1, S2, hr1, hz1⟩
          · intro k c uc m3 nx3 h3 tk3 own3 hk hoff3 hJ3 F5 N5
            obtain ⟨op, am, kop, km, ofs, tl, refs, vsm, st, fv, rfl, hop, hfi, hal1, hv1, S, hr1, hz1⟩ := hJ3
            replace F5 := Fr.knownIf F5 [(Str.ofString "opened", .ref op), (Str.ofString "figures", fv), (Str.ofString "altchars", .bytes al u)] (by simp [hop, hfi, hal1])
            have hkc : W[k]? = some c := by rw [← hk]; simp [sOf]
            have hdr : W.drop k = c :: W.drop (k + 1) := by
              rw [List.drop_eq_getElem_cons (List.getElem?_eq_some_iff.mp hkc).1, (List.getElem?_eq_some_iff.mp hkc).2]
            rw [hdr, List.cons_append] at hr1 hz1
            have hoffd : OwnOff own3 ((own ++ own2).map (·.1)) := OwnOff.sub hoff3 (by intro b hb; simp only [List.map_cons, List.map_append, List.mem_cons, List.mem_append] at hb ⊢; exact .inr (.inr (.inr (.inr hb))))
            have hoffe : OwnOff own3 (op :: am :: (ofs ++ tl).map (·.1)) := OwnOff.sub hoff3 (by intro b hb; simp only [List.map_cons, List.map_append, List.mem_cons, List.mem_append] at hb ⊢; rcases hb with h | h | h | h <;> simp [h])
            replace S := S.moreown hoffe
            generalize W.drop (k + 1) ++ ((ps.drop (j + 1)).flatMap pairTxt ++ (rows.drop (i + 1)).flatMap rowTxt) = rest at *
            clear hk hkc hdr hoff3 hoffe
            refine genF fun P3 hPc => ?_
            simp only [List.cons_append, List.append_assoc (ofs ++ _), List.append_assoc ofs, List.append_assoc tl] at N5
            clear hoffc hoffb S2
            generalize own ++ own2 = base at *
            cases hr1 with
            | cons hst hr2 =>
              have hz2 := Nat.le_trans (Nat.add_le_add_right hst.sz rest.length) (show _ ≤ 16000 by simp only [List.length_cons] at hz1; lia)
              cases hst
              all_goals (first | (obtain ⟨t5, rfl⟩ := hv1) | (cases hv1))
              all_goals (
                have hvl := DatAll.length S.dm
                have hrl := S.ch.len
                dsimp only at hvl hrl
                have hzs := Nat.le_trans (Nat.le_add_right _ _) hz1
                have hvl9 : vsm.length ≤ 100000 := Nat.le_trans (Nat.le_of_eq hvl) (Nat.le_trans (Nat.le_trans (RSt.cur_le ⟨_, _, _⟩) hzs) (by decide))
                have hrl9 : refs.length ≤ 100000 := Nat.le_trans (Nat.le_of_eq hrl) (Nat.le_trans (Nat.le_trans (RSt.outs_le ⟨_, _, _⟩) hzs) (by decide))
                obtain ⟨hoo, hn1⟩ := S.off)
              · k_steps
                (rename Fr _ _ _ _ => F9); (rename News _ _ _ _ => N9)
                exact endP hPc (RebJ_end (st := ⟨some [], _, _⟩) F9 N9 S rfl rfl rfl ⟨_, congrArg (Value.str · _) lit_n⟩ hr2 hz2 hoffd (.head _) (.tail _ (.head _)) fun p hp => .tail _ (.tail _ hp))
              · rename_i f b _ _ hfo
                obtain ⟨hx8, cs, p, hp9, rfl⟩ := hfo
                have hfl : (sOf f).cps.size ≤ 100000 := Nat.le_trans (Nat.le_of_eq (sOf_size f)) (Nat.le_trans (Nat.le_trans RSt.fig_le hzs) (by decide))
                k_steps
                (rename Fr _ _ _ _ => F9); (rename News _ _ _ _ => N9)
                simp only [List.push_toArray] at N9
                exact endP hPc (RebJ_end (st := ⟨none, _, _⟩) F9 N9 S.leaf rfl rfl rfl rfl hr2 hz2 hoffd (.head _) (.tail _ (.head _)) fun p hp => .tail _ (.tail _ hp))
              · rename_i hc
                rename_i f _ _
                have hfl : f.length ≤ 100000 := Nat.le_trans (Nat.le_trans RSt.fig_le hzs) (by decide)
                k_steps
                (rename Fr _ _ _ _ => F9); (rename News _ _ _ _ => N9)
                exact endP hPc (RebJ_end (st := ⟨some (f ++ [c]), _, _⟩) F9 N9 S rfl rfl rfl ⟨_, rfl⟩ hr2 hz2 hoffd (.head _) (.tail _ (.head _)) fun p hp => .tail _ (.tail _ hp))
              · rename_i hc
                rcases hc with rfl | rfl
                all_goals (
                  k_steps
                  (rename Fr _ _ _ _ => F9); (rename News _ _ _ _ => N9); (rename _ < _ ∧ _ < _ ∧ AllLt _ _ => l9)
                  obtain ⟨l5, l6, l7⟩ := l9
                  have S9 := S.opn (k := km) l5 l6 (by simpa only [List.append_assoc] using l7)
                  simp only [List.push_toArray] at N9
                  refine endP hPc (RebJ_end (st := ⟨none, [], _⟩) F9 N9 S9 rfl rfl rfl rfl hr2 hz2 hoffd (.tail _ (.head _)) (.head _) fun p hp => ?_)
                  rcases List.mem_cons.mp hp with rfl | hp
                  · exact .tail _ (.tail _ (.head _))
                  · exact .tail _ (.tail _ (.tail _ hp)))
              all_goals (
                k_steps
                unfold Hold
                (rename Fr _ _ _ _ => F9); (rename News _ _ _ _ => N9)
                show wpAny _ _ (call (.builtin "list.pop") [.ref op]) _ _ _
                refine pop_opn F9 N9 hrl9 fun k' => ⟨_, .head ?_, fun h9 F8 N8 => ?_⟩
                · intro p hp
                  rcases List.mem_cons.mp hp with rfl | hp
                  · exact fun e => hn1 e.symm
                  · exact hoo p hp _ (by simp))
              all_goals (
                have hq1 : OwnOff (base ++ own3) [am] := by
                  intro p hp b hb
                  rw [List.mem_singleton.mp hb]
                  exact S.oown p hp _ (by simp)
                have hq2 : @Ne Nat am op ∧ ∀ x ∈ ofs.map (·.1), @Ne Nat am x := by
                  have nd := S.nd
                  simp only [List.nodup_cons, List.mem_cons, not_or] at nd
                  exact ⟨fun e => nd.1.1 e.symm, fun x hx e => nd.2.1 (e ▸ hx)⟩
                obtain ⟨a, vs9, k9, ofs', refs', rfl, rfl, S9⟩ := S.pop (q := am) (ob := PySem.W.listOf vsm.toArray km) (d := .list _) hq1 hq2 (.list (.head _) (S.dm.mono fun p hp => .tail _ hp))
                obtain ⟨hoo9, hn9⟩ := S9.off
                have hvl8 := DatAll.length S9.dm
                have hvl7 : vs9.length ≤ 100000 := Nat.le_trans (Nat.le_of_eq (Nat.succ.inj (by simpa only [List.length_append, List.length_singleton] using hvl8))) (Nat.le_trans (Nat.le_trans RSt.top_le hzs) (by decide))
                replace N8 := News.sub N8 (b := (op, PySem.W.listOf (refs' ++ [Value.ref a]).toArray k') :: (a, PySem.W.listOf vs9.toArray k9) :: (am, PySem.W.listOf vsm.toArray km) :: (ofs' ++ (tl ++ (base ++ own3)))) (by
                  intro p hp
                  simp only [List.mem_append, List.mem_cons] at hp ⊢
                  rcases hp with h | h | h | h | h | h <;> simp [h])
                have hoa : OwnOff (ofs' ++ (tl ++ (base ++ own3))) [op, a] := fun p hp => hoo9 p (by simp only [List.mem_append, List.mem_cons] at hp ⊢; rcases hp with h | h | h <;> simp [h])
                have hna : @Ne Nat am a := hoo9 (am, PySem.W.listOf vsm.toArray km) (by simp) a (by simp)
                clear hoo9
                have hz9 : vsm.toArray.size ≤ 16384 := Nat.le_trans (Nat.le_of_eq hvl) (Nat.le_trans (Nat.le_trans (RSt.cur_le ⟨_, _, _⟩) hzs) (by decide))
                clear N9 F9 hq1 hq2)
              · k_steps
                (rename Fr _ _ _ _ => F9); (rename News _ _ _ _ => N9)
                simp only [List.push_toArray] at N9
                exact endP hPc (RebJ_end (st := ⟨none, _, _⟩) F9 N9 S9 rfl rfl rfl rfl hr2 hz2 hoffd (.head _) (.tail _ (.head _)) fun p hp => .tail _ (.tail _ (mem_mid hp)))
              · k_steps
                (rename Fr _ _ _ _ => F9); (rename News _ _ _ _ => N9); (rename _ < _ ∧ _ < _ ∧ _ < _ ∧ AllLt _ _ => l9)
                obtain ⟨l1, l2, l3, l4⟩ := l9
                have lne := AllLt.ne l4
                simp only [List.push_toArray] at N9
                obtain ⟨a2, vs2, k2, ofs2, refs2, e1, e2, S10⟩ := S.pop (q := _) (ob := { cls := .type "tuple", data := .seq vsm.toArray }) (d := .tuple _) (fun p hp b hb => by
                    rw [List.mem_singleton.mp hb]
                    exact fun e => lne p (List.mem_append.mpr (.inr (List.mem_append.mpr (.inr hp)))) e.symm) ⟨Nat.ne_of_gt l1, fun x hx => by
                    rcases List.mem_cons.mp hx with rfl | hx
                    · exact Nat.ne_of_gt l2
                    · obtain ⟨p, hp, rfl⟩ := List.mem_map.mp hx
                      exact lne p (List.mem_append.mpr (.inl hp))⟩ (.tuple (.head _) (S.dm.mono fun p hp => .tail _ hp))
                simp only [List.cons.injEq, Prod.mk.injEq] at e1
                obtain ⟨⟨rfl, e3⟩, rfl⟩ := e1
                have e4 : vs9 = vs2 := by
                  have := congrArg Obj.data e3
                  simp only [PySem.W.listOf, Data.seq.injEq] at this
                  simpa using this.1
                subst e4
                have e5 : refs' = refs2 := List.append_cancel_right e2
                subst e5
                exact endP hPc (RebJ_end (st := ⟨none, _, _⟩) F9 N9 S10 rfl rfl rfl rfl hr2 hz2 hoffd (.tail _ (.head _)) (.tail _ (.tail _ (.head _))) fun p hp => by
                  have hp := mem_mid hp
                  rcases List.mem_cons.mp hp with rfl | hp
                  · exact .head _
                  · exact .tail _ (.tail _ (.tail _ (.tail _ hp))))
          · intro m3 nx3 h3 tk3 hJ3 F5 N5
            obtain ⟨op, am, kop, km, ofs, tl, refs, vsm, st, fv, rfl, hop, hfi, hal1, hv1, S, hr1, hz1⟩ := hJ3
            rw [show (sOf W).cps.size = W.length from sOf_len W, List.drop_length, List.nil_append] at hr1 hz1
            k_steps
            exact endP hPb (RebJ_end F5 N5 S hop hfi hal1 hv1 hr1 hz1 hoffb (.head _) (.tail _ (.head _)) fun p hp => .tail _ (.tail _ hp))
    · intro m2 nx2 h2 tk2 hJ2 F3 N3
      obtain ⟨op, am, kop, km, ofs, tl, refs, vsm, st, fv, rfl, hop, hfi, hal1, hv1, S, hr1, hz1⟩ := hJ2
      rw [List.size_toArray, hl2, List.drop_length, List.flatMap_nil, List.nil_append] at hr1 hz1
      k_steps
      exact endP hPa (RebJ_end (base := []) F3 N3 S hop hfi hal1 hv1 hr1 hz1 hoff0 (.head _) (.tail _ (.head _)) fun p hp => .tail _ (.tail _ hp))
  · intro m₁ nx h tk hJ F₁ N₁
    obtain ⟨op, am, kop, km, ofs, tl, refs, vsm, st, fv, rfl, hop, hfi, hal1, hv1, S, hr1, hz1⟩ := hJ
    rw [List.size_toArray, hlr, List.length_map, List.drop_length] at hr1
    cases hr1
    have hch := S.ch
    cases hch
    replace F₁ := Fr.known F₁ [(Str.ofString "opened", .ref op)] (by simp [hop])
    k_steps
    exact hP' _ _ (Done.intro F₁ (NewD.of N₁ (.list (.tail _ (.head _)) (S.dm.mono fun p hp => by simp [hp]))))
end Mine
end
section
open PySem PySem.W PySem.Spec PySem.Calls PyProof.Rows
namespace Mine
open PyProof.Rows.LCg
set_option maxRecDepth 100000
set_option maxHeartbeats 8000000
theorem kw_Wri_0 : True := by
  k_with_none
  trivial
theorem kw_Wri_1 : True := by
  (k_with "isTrue" => ((with_reducible rename MarkB => hm9); clear hm9; refine HoldB.mk ?_))
  (k_with "execs cons" => ((with_reducible show wpAny _ _ (execs (_ :: _) _) _ _ ⟨_, _, _, HAdd.hAdd _ _, _⟩); (try dsimp only); refine dropT ?_; intro tk9))
  (k_with "enterC" => ((case h1 => k_is); (case h2 => k_is); (case h3 => first | decide | (show 900 - 10 * _ < 1000; omega)); (case h4 => first | exact fun _ _ => BindsTo.of_eq rfl | exact fun _ kn => kp_binds kn.X (fun _ => rfl)); (case h5 => exact rfl); (case c5 => decide +kernel);  (case c2 => exact rfl); (case c3 => exact rfl); (case c4 => exact rfl)))
  (k_with "exec Assign cons ListComp" => refine Hold.mk ?_)
  (k_with "call ref" => ((with_reducible show wpAny _ _ (call (Value.ref 181) _ _) _ _ _); refine Hold.mk ?_))
  (k_with "call ref" => ((with_reducible show wpAny _ _ (call (Value.ref 150) _ _) _ _ _); refine Hold.mk ?_))
  (k_with "call type:tuple" => (refine' kde_tupleOf ?k1 ?k2 ?k3 ?k4 rfl ?_; (case k1 => k_asm); (case k2 => k_asm); (case k3 => exact News.isList (by k_asm) (by k_mem)); (case k4 => assumption); intro D' h' F' N' l1))
  (k_with "call builtin:bytes.decode" => (refine call_decode (by assumption) (by assumption) ?_; intro t9 k9))
  (k_with "call builtin:isinstance" => first
  | (refine IsiPair.tuple_bytes (Fr.keep (by k_asm) _ _ (by assumption)) rfl ?_)
  | (refine IsiPair.tuple_tuple (Fr.keep (by k_asm) _ _ (by assumption)) rfl ?_)
  | (refine IsiPair.list_bytes (Fr.keep (by k_asm) _ _ (by assumption)) rfl ?_)
  | (refine IsiPair.list_tuple (Fr.keep (by k_asm) _ _ (by assumption)) rfl ?_))
  trivial
theorem wri_leaf (w : World) (al : Array UInt8) (hal : IsAl al) (n : Nat) (b : Array UInt8) (d : Nat) (v : Value) (u : Tok) (hn : n ≤ 8) (hb : b.size ≤ 5) :
   PureC w (n + 5) 181 [v, .bytes al u] [] (fun h => AtD h v (srtD d (.leaf b))) (NewD (wriD (encT al) d (.leaf b))) := by
  refine' enterC [(Str.ofString "thing", v), (Str.ofString "altchars", .bytes al u)] ?h1 ?h2 ?h3 ?h4 ?h5 ?c5 ?_ ?c2 ?c3 ?c4
  walk_at "enterC"
  intro s p' loose' mg' mb' L' h' tk' cells' pre' F' N' Y' X' T' P' hP'
  k_cells Y'
  rw [srtD] at pre'
  obtain ⟨tb, rfl⟩ := AtD.bytes pre'
  k_steps
  unfold Hold
  refine PureC.use (b64encode_spec w b tb al u hal (by lia)) (by assumption) (by assumption) (by assumption) (by assumption) (loD (by lia) (by lia) _) trivial ?_
  intro v9 h9 tk9 F9 N9 k9 o9
  obtain ⟨t9, e9⟩ := o9
  subst e9
  have hlt := enc_ascii' (b := b) hal
  have hft := encB_fits (al := al) (b := b) (by lia)
  have e10 : trBy (trTab #[43, 47] al) (byteArr (enc64 (KBw.bInts b))) = encB al b := rfl
  rw [e10]
  k_steps
  exact hP' _ _ (Done.intro (by assumption) ⟨[], Fresh.nil, by rw [wriD, sOf_encT]; exact .str _ _⟩)
theorem wri_spec (w : World) (al : Array UInt8) (hal : IsAl al) : ∀ (n : Nat) (t : Tr) (d : Nat) (v : Value) (u : Tok), n ≤ 8 → Le n t → wt t ≤ 1000 →
   PureC w (n + 5) 181 [v, .bytes al u] [] (fun h => AtD h v (srtD d t)) (NewD (wriD (encT al) d t)) := by
  intro n
  induction n with
  | zero =>
    intro t d v u hn hle hwt
    cases t with
    | node ts => exact hle.elim
    | leaf b => exact wri_leaf w al hal 0 b d v u hn hle
  | succ n ih =>
    intro t d v u hn hle hwt
    cases t with
    | leaf b => exact wri_leaf w al hal (n + 1) b d v u hn hle
    | node ts =>
      refine' enterC [(Str.ofString "thing", v), (Str.ofString "altchars", .bytes al u)] ?h1 ?h2 ?h3 ?h4 ?h5 ?c5 ?_ ?c2 ?c3 ?c4
      walk_at "enterC"
      intro s p' loose' mg' mb' L' h' tk' cells' pre' F' N' Y' X' T' P' hP'
      k_cells Y'
      rw [srtD] at pre'
      have hz : ∃ (ax : Addr) (vs : List Value) (n : Nat) (nw : List (Addr × Obj)), v = .ref ax ∧ (∀ p ∈ nw, s.heap.get? p.1 = some p.2) ∧ DatAll nw vs (srtDs (d + 1) ts) ∧ ((d % 2 = 1 ∧ s.heap.get? ax = some { cls := .type "tuple", data := .seq vs.toArray n }) ∨ (¬ d % 2 = 1 ∧ s.heap.get? ax = some (W.listOf vs.toArray n))) := by
        unfold seqD at pre'
        split at pre'
        · rename_i hd
          obtain ⟨ax, vs, nn, nw, rfl, hget, hnw, hall⟩ := AtD.tuple pre'
          exact ⟨ax, vs, nn, nw, rfl, hnw, hall, .inl ⟨hd, hget⟩⟩
        · rename_i hd
          obtain ⟨ax, vs, nn, nw, rfl, hget, hnw, hall⟩ := AtD.list pre'
          exact ⟨ax, vs, nn, nw, rfl, hnw, hall, .inr ⟨hd, hget⟩⟩
      obtain ⟨ax, vs, nn, nw, rfl, hnw, hall, hpar⟩ := hz
      have hl : SeqB s.heap ax vs.toArray := by
        rcases hpar with ⟨_, hget⟩ | ⟨_, hget⟩
        · exact .tup ⟨_, hget, rfl, _, rfl⟩
        · exact .list ⟨_, hget, rfl, _, rfl⟩
      have hlen := DatAll.length hall
      rw [srtDs_eq, List.length_map] at hlen
      have hwl : vs.length ≤ 1000 := by have := wts_len ts; rw [wt] at hwt; lia
      have hm9 := MarkB.mk
      k_steps
      unfold HoldB
      refine cutBo false ?_ fun tk1 => ?_
      · rcases hpar with ⟨hpar, hget⟩ | ⟨hpar, hget⟩
        all_goals (k_steps; exact ⟨rfl, rfl⟩)
      k_steps
      unfold Hold
      (rename Fr _ _ _ _ => F1)
      refine comp_A (its := vs.toArray) F1 rfl (by with_unfolding_all rfl) (by with_unfolding_all rfl) (by decide) (by rfl) (by decide) (by rfl) (by rfl) (by rfl) ?_
      k_steps
      (rename News _ _ _ _ => N1)
      refine Rst.of rfl (by assumption) N1 hl (by rw [List.size_toArray, sizeLine_eq]; lia) fun g => ?_
      refine comp_ind (fun i ys news => ∃ tl, news = [_] ++ tl ∧ DatAll tl ys ((ts.take i).map (wriD (encT al) (d + 1)))) ⟨[], rfl, DatAll.nil⟩ ?_ ?_
      · intro i ys news v I' oI' C' oC' D' m' h' tk' E' hi hv hj hC' hx' F' N' off' ne'
        obtain ⟨tl, rfl, hD⟩ := hj
        obtain ⟨dv, hdv, hin⟩ := DatAll.at hall (by simpa using hv)
        rw [srtDs_eq, List.getElem?_map] at hdv
        obtain ⟨ti, hti, rfl⟩ := Option.map_eq_some_iff.mp hdv
        have hmem := List.mem_of_getElem? hti
        have ihh : ∀ u, PureC w (n + 5) 181 [v, .bytes al u] [] (fun h => AtD h v (srtD (d + 1) ti)) (NewD (wriD (encT al) (d + 1) ti)) := fun u => ih ti (d + 1) v u (by lia) (hle ti hmem) (by have := wt_mem hmem; rw [wt] at hwt; lia)
        k_steps
        unfold Hold
        (rename Fr _ _ _ _ => F2); (rename News _ _ _ _ => N2)
        refine PureC.use (ihh _) F2 N2 (by assumption) (by assumption) (loD (by lia) (by lia) _) ⟨nw, fun p hp => F2.keep _ _ (hnw p hp), hin⟩ ?_
        intro v9 h9 tk9 F9 N9 k9 o9
        k_unfold
        rw [show (ts.take (i + 1)).map (wriD (encT al) (d + 1)) = (ts.take i).map (wriD (encT al) (d + 1)) ++ [wriD (encT al) (d + 1) ti] by rw [List.take_add_one, hti]; simp]
        exact compEndD (fix := [_]) F2 N2 F9 N9 off' o9 hD
      · intro ys news hj
        obtain ⟨tl, rfl, hD⟩ := hj
        rw [List.size_toArray, hlen, List.take_length] at hD
        have hyl : ys.toArray.size ≤ 16384 := by have := DatAll.length hD; rw [List.length_map] at this; rw [List.size_toArray]; lia
        unfold FinA
        intro D9 h9 tk9 F9 N9 o9
        rcases hpar with ⟨hpar, hget⟩ | ⟨hpar, hget⟩
        · k_steps
          (rename News _ _ _ _ => N3)
          refine hP' _ _ (Done.intro (by assumption) (NewD.of N3 ?_))
          rw [wriD, wriDs_eq]
          exact seq_tup hpar (.head _) (hD.mono fun p hp => by simp [hp])
        · k_steps
          (rename News _ _ _ _ => N3)
          refine hP' _ _ (Done.intro (by assumption) (NewD.of N3 ?_))
          rw [wriD, wriDs_eq]
          exact seq_lst hpar (.head _) (hD.mono fun p hp => by simp [hp])
end Mine
end
section
open PySem PySem.W PySem.Spec PySem.Calls PyProof.Rows
namespace Mine
set_option maxRecDepth 100000
set_option maxHeartbeats 8000000
theorem kw_Rep_0 : True := by
  k_with_none
  trivial
theorem kw_Rep_1 : True := by
  (k_with "execs cons" => ((with_reducible show wpAny _ _ (execs (_ :: _) _) _ _ ⟨_, _, _, HAdd.hAdd _ _, _⟩); (try dsimp only); refine dropT ?_; intro tk9))
  (k_with "enter" => ((case h1 => k_is); (case h2 => k_is); (case h3 => first | decide | (show 900 - 10 * _ < 1000; omega)); (case h4 => first | exact fun _ _ => BindsTo.of_eq rfl | exact fun _ kn => kp_binds kn.X (fun _ => rfl)); (case h5 => exact locs rfl); (case c5 => decide);  (case c2 => exact rfl); (case c3 => exact rfl); (case c4 => exact rfl)))
  trivial
theorem call_repr9 {prog : Program} {w : World} {A : Around} {E : Value → Shared → Prop} {s : Shared} {h₀ : Heap} {L a : Addr} {m : Str → Option Value} {news : List (Addr × Obj)} {d : PyData} {as : List Addr} {l : List Nat} {Q : Value → Shared → Prop} (F : Fr h₀ L s.heap m) (N : News h₀ L s.heap news) (rd : Reads h₀ (.ref a) d as)
    (ok1 : d.showable = true) (ok2 : d.hasDict = false) (hsh : d.shown = sOf l) (hl : l.length ≤ 100000) (hd : d.depth ≤ 8) (hg : A.guards = some []) (hu : A.units + 10 < cLine)
    (h : ∀ h' u tk, Fr h₀ L h' m → News h₀ L h' news → Q (.str (sOf l) u) { s with heap := h', toks := tk }) : wpAny (model prog w) A (call (.builtin "repr") [.ref a]) Q E s :=
  repr_of_reads' rd ok1 (fun e => by rw [ok2] at e; cases e) hg (by lia) F.keep (fun h' u tk hk => by rw [hsh]; exact h h' u tk (Mine.Fr.mono F hk) (Mine.News.mono N hk)) (by rw [hsh]; exact sOf_fits hl)
theorem units3 (env : Env) : ((LA 3).deeper env).units + 10 < cLine := by
  have := cLine_is
  show (9000 - 100 * 3) + _ + 10 < cLine
  lia
theorem kw_Rep_2 : True := by
  (k_with "call builtin:repr" => (refine' call_repr9 ?F ?N ?rd ?o1 ?o2 ?hs ?hl ?hd ?hg ?hu ?_; (case F => k_asm); (case N => k_asm); (case rd => assumption); (case o1 => assumption); (case o2 => assumption); (case hs => assumption); (case hl => omega); (case hd => omega); (case hg => rfl); (case hu => exact units3 _); intro h9 u9 tk9 F9 N9; (try dsimp only)))
  trivial
theorem len_sOf9 {prog : Program} {w : World} {A : Around} {E : Value → Shared → Prop} {s : Shared} {l : List Nat} {t : Tok} {Q : Value → Shared → Prop} (hl : l.length ≤ 100000) (h : Q (.int (l.length : Int) (s.toks + 1)) { s with toks := s.toks + 1 + 1 }) : wpAny (model prog w) A (call (.builtin "len") [.str (sOf l) t]) Q E s := by
  have := sOf_len l
  refine P.len_str (by rw [this]; lia) (by rw [this]; exact h)
theorem kw_Rep_3 : True := by
  (k_with "call builtin:len" => (refine len_sOf9 (by omega) ?_))
  trivial
theorem slice80 {l : List Nat} (h : 80 ≤ l.length) : Txt.slice (sOf l) none (some 80) = sOf (l.take 80) := by
  have := sl_to (x := sOf l) (e := 80) (by rw [sOf_size]; exact h)
  rw [show ((80 : Nat) : Int) = 80 from rfl] at this
  rw [this]; rfl
theorem kw_Rep_4 : True := by
  (k_with "subscriptTail" => ((with_reducible show wpAny _ _ (subscriptTail _ (Expr.Slice none (some _) none _) (Value.str (sOf _) _) _) _ _ _); (with_reducible rename Fr _ _ _ _ => F'); (with_reducible rename News _ _ _ _ => N'); (refine slice_strN_ns (hsz := ?hsz) (s := ⟨_, _, _, _, _⟩) F' N' ?_); (case hsz => exact sOf_fits (by omega)); intro _ _ _ _ _))
  (k_with "binaryOp Add str str" => (refine' add_gen ?hx ?hy ?hl ?_; (case hx => exact slice80 (by omega)); (case hy => exact lit_tr); (case hl => (rw [List.length_take]; show _ + 15 ≤ 1000000; omega)); intro t9 k9))
  trivial
theorem rep_short (w : World) (al : Array UInt8) (sg : Str) (hal : Pr al sg) (ts : List Tr) (n : Nat) (v : Value) (hn : n ≤ 6) (hle : Le n (.node ts)) (hwt : wt (.node ts) ≤ 1000) :
   PureC w 3 166 [v, .bool true] [] (fun h => AtD h v (wriD (encT al) 0 (.node ts))) (fun _ _ r => ∃ t', r = .str (sOf (shortT (tolT (encT al) 0 (.node ts)))) t') := by
  refine' enterP [(Str.ofString "obj", v), (Str.ofString "short", .bool true)] ?h1 ?h2 ?h3 ?h4 ?h5 ?_ ?c2 ?c3 ?c4 ?c5
  walk_at "enter"
  intro s p' loose' mg' mb' L' h' tk' pre' F' N' X' T' P' hP'
  obtain ⟨ok1, ok2, ok3, ok4⟩ := wri_ok hal n (.node ts) 0 hle
  obtain ⟨as, rd⟩ := AtD.reads pre' ok4
  have hsh := shown_eq hal n (.node ts) 0 hle
  have hlen := tol_len (al := al) n (.node ts) 0 hle
  have href : ∃ a, v = .ref a := by
    rw [wriD] at pre'
    obtain ⟨ax, vs, nn, nw, rfl, _⟩ := AtD.seq pre'
    exact ⟨ax, rfl⟩
  obtain ⟨ax, rfl⟩ := href
  k_steps
  · rename _ < (80 : Int) => hf
    refine hP' _ _ (Done.intro (by assumption) ⟨_, congrArg (Value.str · _) ?_⟩)
    unfold shortT; rw [if_pos (by lia)]
  · rename ¬ _ < (80 : Int) => hf
    refine hP' _ _ (Done.intro (by assumption) ⟨_, congrArg (Value.str · _) ?_⟩)
    unfold shortT; rw [if_neg (by lia), slice80 (by lia), lit_tr, sOf_app]
theorem rep_long (w : World) (al : Array UInt8) (sg : Str) (hal : Pr al sg) (ts : List Tr) (n : Nat) (v : Value) (hn : n ≤ 6) (hle : Le n (.node ts)) (hwt : wt (.node ts) ≤ 1000) :
   PureC w 3 166 [v] [] (fun h => AtD h v (wriD (encT al) 0 (.node ts))) (fun _ _ r => ∃ t', r = .str (sOf (tolT (encT al) 0 (.node ts))) t') := by
  refine' enterP [(Str.ofString "obj", v), (Str.ofString "short", .bool false)] ?h1 ?h2 ?h3 ?h4 ?h5 ?_ ?c2 ?c3 ?c4 ?c5
  walk_at "enter"
  intro s p' loose' mg' mb' L' h' tk' pre' F' N' X' T' P' hP'
  obtain ⟨ok1, ok2, ok3, ok4⟩ := wri_ok hal n (.node ts) 0 hle
  obtain ⟨as, rd⟩ := AtD.reads pre' ok4
  have hsh := shown_eq hal n (.node ts) 0 hle
  have hlen := tol_len (al := al) n (.node ts) 0 hle
  have href : ∃ a, v = .ref a := by
    rw [wriD] at pre'
    obtain ⟨ax, vs, nn, nw, rfl, _⟩ := AtD.seq pre'
    exact ⟨ax, rfl⟩
  obtain ⟨ax, rfl⟩ := href
  k_steps
  exact hP' _ _ (Done.intro (by assumption) ⟨_, rfl⟩)
end Mine
end
section
open PySem PySem.W PySem.Calls PyProof.Rows
namespace Mine
open PySem.Sre
set_option maxRecDepth 100000
set_option maxHeartbeats 8000000
theorem kw_Shw_0 : True := by
  k_with_none
  trivial
theorem kw_Shw_1 : True := by
  (k_with "execs cons" => ((with_reducible show wpAny _ _ (execs (_ :: _) _) _ _ ⟨_, _, _, HAdd.hAdd _ _, _⟩); (try dsimp only); refine dropT ?_; intro tk9))
  (k_with "enter" => ((case h1 => k_is); (case h2 => k_is); (case h3 => decide); (case h4 => first | exact fun _ _ => BindsTo.of_eq rfl | exact fun _ kn => kp_binds kn.X (fun _ => rfl)); (case h5 => exact locs rfl); (case c5 => decide);  (case c2 => exact rfl); (case c3 => exact rfl); (case c4 => exact rfl)))
  (k_with "pureuse" => ((case kF => k_asm); (case kN => k_asm); (case kX => k_asm); (case kT => k_asm); (case lo => exact ⟨rfl, rfl, Nat.le_of_ble_eq_true rfl, Nat.le_of_ble_eq_true rfl⟩); k_whole))
  (k_with "exec While" => ((with_reducible show wpAny _ _ (exec (Stmt.While _ _ _ _) _) _ _ _); refine Hold.mk ?_))
  (k_with "exec For" => ((with_reducible show wpAny _ _ (exec (Stmt.For _ _ _ _ _) _) _ _ _); refine Hold.mk ?_))
  (k_with "getMethod ref" => first
  | (refine' gm_search pat_tok ?gx ?_; (case gx => k_in))
  | (refine' gm_search pat_quo ?gx ?_; (case gx => k_in))
  | (refine' gm_search pat_val ?gx ?_; (case gx => k_in))
  | (refine' gm_group ?gi ?_; (case gi => exact IsMatch.of (by k_asm) (by k_mem) (by k_mem))))
  (k_with "srch" => ((case F => k_asm); (case N => k_asm); (case X => k_asm); (case r => assumption); (case hx => lia); (case hn => lia); (case hit => assumption); (case hbe => lia); intro q9 p9 h9 F9 N9 l9 l8; k_lt l9; k_lt2 l8; (try dsimp only)))
  (k_with "miss" => ((case F => k_asm); (case X => k_asm); (case r => assumption); (case hx => lia); (case hn => lia); (case ho => assumption); (try dsimp only)))
  (k_with "call builtin:re.Pattern.search" => first
  | (refine' search_hit' pat_tok ?F ?N ?X ?r ?hx ?hn ?hit ?hbe ?_; walk_at "srch")
  | (refine' search_miss' pat_tok ?F ?X ?r ?hx ?hn ?ho ?_; walk_at "miss")
  | (refine' search_miss' pat_quo ?F ?X ?r ?hx ?hn ?ho ?_; walk_at "miss")
  | (refine' search_hit' pat_val ?F ?N ?X ?r ?hx ?hn ?hit ?hbe ?_; walk_at "srch")
  | (refine' search_miss' pat_val ?F ?X ?r ?hx ?hn ?ho ?_; walk_at "miss"))
  (k_with "truthy ref" => (refine' truthy_match ?N ?hm ?_; (case N => k_asm); (case hm => k_mem)))
  (k_with "call builtin:re.Match.group" => (refine' call_group' ?gi ?hg ?hx ?_; (case gi => exact IsMatch.of (by k_asm) (by k_mem) (by k_mem)); (case hg => assumption); (case hx => omega); intro t9 k9))
  (k_with "call ref" => ((with_reducible show wpAny _ _ (call (Value.ref 50) [Value.ref _]) _ _ _); (refine' PureC.use (unm_spec' _ _ _ _ _ _ _ ?he ?hx ?hd) ?kF ?kN ?kX ?kT ?lo ?pre ?_; (case pre => exact IsMatch.of (by k_asm) (by k_mem) (by k_mem)); (case hd => assumption); (case he => lia); (case hx => lia); walk_at "pureuse"); (intro v9 h9 tk9 F9 N9 k9 o9; obtain ⟨t9, e9⟩ := o9; subst e9; clear k9; (try dsimp only))))
  (k_with "truthy str" => ((try dsimp only); first | refine truthy_sOf (by assumption) ?_ | refine truthy_ne (by assumption) (by assumption) ?_))
  (k_with "call builtin:str.lstrip" => (refine call_lstrip' (by assumption) (by assumption) ?_; intro t9 k9))
  (k_with "call builtin:str.rstrip" => (refine call_rstrip' (by assumption) (by lia) ?_; intro t9 k9))
  (k_with "subscriptTail" => ((with_reducible show wpAny _ _ (subscriptTail _ (Expr.Slice (some _) none none _) (Value.str (sOf _) _) _) _ _ _); (with_reducible rename Fr _ _ _ _ => F'); (with_reducible rename News _ _ _ _ => N'); (refine slice_strN_sn (hsz := ?hsz) (s := ⟨_, _, _, _, _⟩) F' N' ?_); (case hsz => exact sOf_fits (by assumption)); (simp only [slice_one]); intro _ _ _ _ _))
  (k_with "call builtin:str.startswith" => (refine call_starts' ?_))
  trivial
theorem split_spec (w : World) (ax : Addr) (sts : List (List Wd)) (t : Tok) (hok : StsOk sts) (hne : sts ≠ []) (hz : (stsTxt sts).length ≤ 100000) (hq : ∀ c ∈ stsTxt sts, c ≠ 34) :
   PureC w 2 77 [.ref ax] [] (fun h => h.IsList ax #[.str (sOf (stsTxt sts)) t]) (NewD (.list (sts.map fun st => rowD (rowOf st)))) := by
  refine' enterP [(Str.ofString "header_values", .ref ax)] ?h1 ?h2 ?h3 ?h4 ?h5 ?_ ?c2 ?c3 ?c4 ?c5
  walk_at "enter"
  intro s p' loose' mg' mb' L' h' tk' pre' F' N' X' T' P' hP'
  k_steps
  unfold Hold
  refine For_invVF (by assumption) rfl rfl ?_
  refine ld (by assumption) rfl ?_
  (rename Fr _ _ _ _ => F1); (rename News _ _ _ _ => N1)
  refine loop_list (fun i m nx => SpJ sts i m nx) rfl (IsList.keeps pre' F1.keep) (by intro e; exact absurd (Heap.lt_size (IsList.some pre')) (by rw [e]; exact Nat.not_lt.mpr F1.above)) F1 N1 ?_ ?_ ?_ ?_
  · intro p hp e
    have := (N1 p hp).2.2
    rw [e, IsList.some pre'] at this; cases this
  · exact ⟨_, [], _, [], rfl, OwnOff.nil, DatAll.nil, rfl⟩
  · intro i v m₁ nx h tk own hi hoff hJ F₁ N₁
    refine genF fun P1 hPa => ?_
    have hi0 : i = 0 ∧ v = .str (sOf (stsTxt sts)) t := by
      cases i with
      | zero => exact ⟨rfl, (Option.some.inj hi).symm⟩
      | succ i => simp at hi
    obtain ⟨rfl, rfl⟩ := hi0
    obtain ⟨ra, its, kr, dl, rfl, hdl, hD, hres⟩ := hJ
    replace hD : DatAll dl its [] := hD
    cases hD
    replace F₁ := Fr.knownIf F₁ [(Str.ofString "result", .ref ra)] (by simp [hres])
    simp only [List.map_cons, List.cons_append] at hoff N₁
    have ho1 : OwnOff own [ra] := OwnOff.sub hoff (by simp)
    have ho2 : OwnOff own (dl.map (·.1)) := OwnOff.sub hoff (by intro b hb; exact List.mem_cons_of_mem _ hb)
    have ho3 : OwnOff (dl ++ own) [ra] := OwnOff.app hdl ho1
    k_steps
    unfold Hold
    (rename Fr _ _ _ _ => F2); (rename News _ _ _ _ => N2)
    refine While_inv2 (fun n m nx => SpW sts own n m nx) (n₀ := (stsTxt sts).length) F2 N2 ?_ ?_
    · (rename _ ∧ AllLt _ _ => l1)
      obtain ⟨st, more, rfl⟩ : ∃ st more, sts = st :: more := by
        cases sts with
        | nil => exact absurd rfl hne
        | cons st more => exact ⟨st, more, rfl⟩
      refine ⟨_, ra, [], [], 0, kr, dl, st, more, [], [], t, rfl, rfl, rfl, rfl, rfl, ?_⟩
      refine ⟨Nat.ne_of_gt l1.1, fun p hp b hb => ?_, fun p hp b hb => ?_, ho2, DatAll.nil, DatAll.nil, (hok.ok _ (.head _)).1, fun st' h => hok.ok _ (.tail _ h), .inr (hok.ok _ (.head _)).2, rfl, (by simp only [List.length_nil]; exact Nat.le_trans (Nat.le_of_eq (Nat.zero_add _)) (Nat.le_succ_of_le hz)), (by simp only [List.length_nil]; exact Nat.le_trans (Nat.le_of_eq (Nat.zero_add _)) (Nat.le_succ_of_le hz)), hz, hq⟩
      · rcases List.mem_cons.mp hb with rfl | hb
        · exact (AllLt.ne l1.2 p (List.mem_append.mpr (.inl hp))).symm
        · exact hdl p hp b hb
      · rcases List.mem_cons.mp hb with rfl | hb
        · exact (AllLt.ne l1.2 p (List.mem_append.mpr (.inr hp))).symm
        · exact ho1 p hp b hb
    · intro n m2 nx2 h2 tk2 F3 N3 hJ
      obtain ⟨pa, ra', pits, rits, kp, kr', dl', ws, more, ps, rs, t', rfl, hn, htx, hpa, hra, S⟩ := hJ
      replace F3 := Fr.known F3 [(Str.ofString "text", .str (sOf (tlTxt ws more)) t'), (Str.ofString "pairs", .ref pa), (Str.ofString "result", .ref ra')] (by simp [htx, hpa, hra])
      obtain ⟨hpr, odl, oown, oo, dp, dr, okw, okm, hsome, heq, lp, lr, hlen, hnq⟩ := id S
      have hoo : OwnOff (dl' ++ own) [pa, ra'] := OwnOff.app odl oown
      have hpl := dp.length
      have hrl := dr.length
      cases ws with
      | nil =>
        cases more with
        | nil =>
          have hpne : ps ≠ [] := hsome.resolve_right fun h => h rfl
          obtain ⟨p0, pit, rfl⟩ : ∃ p0 pit, pits = p0 :: pit := by
            cases pits with
            | nil => exact absurd (List.map_eq_nil_iff.mp (List.eq_nil_of_length_eq_zero hpl.symm)) hpne
            | cons p0 pit => exact ⟨p0, pit, rfl⟩
          k_steps
          (rename Fr _ _ _ _ => F9); (rename News _ _ _ _ => N9)
          have j9 := sp_fin S kp kr' (m := kstB m2 [(Str.ofString "text", .str (sOf (tlTxt [] [])) t'), (Str.ofString "pairs", .ref pa), (Str.ofString "result", .ref ra')]) rfl
          obtain ⟨j1, j2, j3, j4⟩ := j9
          exact endP hPa (InvEndG.intro F9 N9 j1 j2 j3 j4)
        | cons st more =>
          have hpne : ps ≠ [] := hsome.resolve_right fun h => h rfl
          obtain ⟨p0, pit, rfl⟩ : ∃ p0 pit, pits = p0 :: pit := by
            cases pits with
            | nil => exact absurd (List.map_eq_nil_iff.mp (List.eq_nil_of_length_eq_zero hpl.symm)) hpne
            | cons p0 pit => exact ⟨p0, pit, rfl⟩
          rw [tlTxt_more] at *
          obtain ⟨mm, hmm, rmm⟩ := tokMiss (rest := tlTxt st more) rfl hlen
          have hsp := head44 (l := tlTxt st more)
          k_steps
          (rename Fr _ _ _ _ => F9); (rename News _ _ _ _ => N9); (rename _ < _ ∧ _ < _ ∧ AllLt _ _ => l9)
          rw [hn]
          refine ws2_intro (nx := (_, W.listOf #[] 0) :: (ra', W.listOf (rits ++ [Value.ref pa]).toArray (kr' + 1)) :: (((pa, W.listOf (p0 :: pit).toArray kp) :: dl') ++ own)) F9 N9 ?_ (Nat.lt_succ_self _) ⟨_, ra', [], _, 0, kr' + 1, _, st, more, [], rs ++ [ps], _, rfl, rfl, rfl, rfl, rfl, sp_comma S kp l9.1 l9.2.1 l9.2.2⟩
          rw [← List.push_toArray]
          intro p hp
          simp only [List.mem_cons, List.mem_append] at hp ⊢
          rcases hp with h | h | (h | h) | h <;> simp [h]
      | cons x ws =>
        have hnz : tlTxt (x :: ws) more ≠ [] := by
          intro e
          rw [tlTxt_cons] at e
          exact body_ne (okw.1 x (.head _)) (List.append_eq_nil_iff.mp (List.append_eq_nil_iff.mp e).2).1
        have hkn := (okw.1 x (.head _)).ne
        have hkt := fun c hc => ((okw.1 x (.head _)).key c hc).1
        obtain ⟨hv, l, k, r, hl, el, bl, hr, hk, row⟩ | ⟨l, k, v, r, ws', hl, el, hv, hr, hs, er, row, ok', ha⟩ := taken (more := more) okw
        · obtain ⟨mt, htok, rtok⟩ := tokHit hl hlen hkn hkt hk
          have hdr : (tlTxt (x :: ws) more).drop (x.n + x.key.length) = l := by rw [hl, ← List.append_assoc, List.drop_left' (by simp)]
          have hgr : ((tlTxt (x :: ws) more).take (x.n + x.key.length)).drop x.n = x.key := by rw [hl, ← List.append_assoc, List.take_left' (by simp), List.drop_left' (by simp)]
          have hll : l.length + x.key.length + x.n = (tlTxt (x :: ws) more).length := by rw [hl]; simp only [List.length_append, List.length_replicate]; lia
          have hkl := List.length_pos_iff.mpr hkn
          have hl5 : l.length ≤ 100000 := by lia
          obtain ⟨mq, hmq, rmq⟩ := quoMiss bl hl5 hr
          obtain ⟨mv, hmv, rmv⟩ := valMiss bl hl5 hr
          generalize hT : tlTxt (x :: ws) more = T at *
          k_steps
          (rename Fr _ _ _ _ => F9); (rename News _ _ _ _ => N9); (rename _ < _ ∧ _ < _ ∧ _ < _ ∧ _ < _ ∧ AllLt _ _ => l9)
          subst hT
          subst el
          have hlt : (tlTxt ws more).length < (tlTxt (x :: ws) more).length := by lia
          have hsub : ∀ c ∈ tlTxt ws more, c ∈ tlTxt (x :: ws) more := by
            intro c hc
            rw [hl]
            simp only [List.mem_append]; exact .inr (.inr hc)
          rw [hn]
          refine ws2_intro (n' := (tlTxt ws more).length) F9 N9 sub_w1 hlt ⟨pa, ra', _, rits, kp + 1, kr', _, ws, more, ps ++ [(x.key, none)], rs, _, rfl, rfl, rfl, rfl, rfl, sp_word S l9.2.2.1 l9.2.2.2.1 l9.2.2.2.2 row okw.tail hlt hsub (DatIn.tuple (n := 0) (.head _) (.cons (.str _ _) (.cons .none .nil)))⟩
        · obtain ⟨mt, htok, rtok⟩ := tokHit hl hlen hkn hkt (by intro c hc; rw [el] at hc; cases hc; exact tk61)
          have hdr : (tlTxt (x :: ws) more).drop (x.n + x.key.length) = l := by rw [hl, ← List.append_assoc, List.drop_left' (by simp)]
          have hgr : ((tlTxt (x :: ws) more).take (x.n + x.key.length)).drop x.n = x.key := by rw [hl, ← List.append_assoc, List.take_left' (by simp), List.drop_left' (by simp)]
          have hll : l.length + x.key.length + x.n = (tlTxt (x :: ws) more).length := by rw [hl]; simp only [List.length_append, List.length_replicate]; lia
          have hlr : r.length + v.length + k + 1 = l.length := by rw [el]; simp only [List.length_append, List.length_replicate, List.length_cons]; lia
          have hkl := List.length_pos_iff.mpr hkn
          have hl5 : l.length ≤ 100000 := by lia
          have hnql : ∀ c ∈ l, c ≠ 34 := fun c hc => hnq c (by rw [hl]; simp only [List.mem_append]; exact .inr (.inr hc))
          obtain ⟨mq, hmq, rmq⟩ := quoMiss2 el hl5 hnql
          obtain ⟨mv, hmv, rmv⟩ := valHit el hl5 hv hr hs
          have hdr2 : l.drop (1 + k + v.length) = r := by rw [el, show (61 :: (List.replicate k 32 ++ (v ++ r))) = (61 :: (List.replicate k 32 ++ v)) ++ r by simp, List.drop_left' (by simp; lia)]
          have hgr2 : (l.take (1 + k + v.length)).drop (1 + k) = v := by rw [el, show (61 :: (List.replicate k 32 ++ (v ++ r))) = (61 :: (List.replicate k 32 ++ v)) ++ r by simp, List.take_left' (by simp; lia), show (61 :: (List.replicate k 32 ++ v)) = (61 :: List.replicate k 32) ++ v by simp, List.drop_left' (by simp; lia)]
          generalize hT : tlTxt (x :: ws) more = T at *
          k_steps
          (rename Fr _ _ _ _ => F9); (rename News _ _ _ _ => N9); (rename _ < _ ∧ _ < _ ∧ _ < _ ∧ _ < _ ∧ _ < _ ∧ _ < _ ∧ AllLt _ _ => l9)
          subst hT
          subst er
          have hlt : (tlTxt ws' more).length < (tlTxt (x :: ws) more).length := by lia
          have hsub : ∀ c ∈ tlTxt ws' more, c ∈ tlTxt (x :: ws) more := by
            intro c hc
            rw [hl]
            rw [el]; simp only [List.mem_append, List.mem_cons]; exact .inr (.inr (.inr (.inr (.inr hc))))
          rw [hn]
          refine ws2_intro (n' := (tlTxt ws' more).length) F9 N9 sub_w2 hlt ⟨pa, ra', _, rits, kp + 1, kr', _, ws', more, ps ++ [(x.key, some v)], rs, _, rfl, rfl, rfl, rfl, rfl, sp_word S l9.2.2.2.2.1 l9.2.2.2.2.2.1 l9.2.2.2.2.2.2 row ok' hlt hsub (DatIn.tuple (n := 0) (.head _) (.cons (.str _ _) (.cons (.str _ _) .nil)))⟩
  · intro m₁ nx h tk hJ F₁ N₁
    obtain ⟨ra, its, kr, dl, rfl, hdl, hD, hres⟩ := hJ
    replace hD : DatAll dl its (sts.map fun st => rowD (rowOf st)) := hD
    replace F₁ := Fr.known F₁ [(Str.ofString "result", .ref ra)] (by simp [hres])
    k_steps
    refine hP' _ _ (Done.intro (by assumption) ?_)
    exact NewD.of (by assumption) (.list (.head _) (hD.mono fun p hp => .tail _ hp))
end Mine
end
section
open PySem PySem.W PySem.Spec PySem.Calls PyProof.Rows
set_option maxRecDepth 100000
namespace Mine
open PySem.SeqAt
noncomputable def eqOk : Nat → Dat → Bool
  | _, .bytes _ => true
  | _, .str _ => true
  | _, .none => true
  | n + 1, .tuple ds => ds.all (eqOk n)
  | n + 1, .list ds => ds.all (eqOk n)
  | _, _ => false
theorem all_true (n : Nat) : (List.range n).all (fun _ => true) = true := by simp
/-- equal data of octets compare equal -/
theorem eqAtD : ∀ (n : Nat) (d : Dat) (A : Around) (s : Shared) (v u : Value), eqOk n d = true → AtD s.heap v d → AtD s.heap u d → A.units + n < cLine → EqAt A s v u true := by
  have leafS : ∀ (x : Str) (A : Around) (s : Shared) (v u : Value), AtD s.heap v (.str x) → AtD s.heap u (.str x) → EqAt A s v u true := by
    intro x A s v u hv hu
    obtain ⟨_, _, hv⟩ := hv
    obtain ⟨_, _, hu⟩ := hu
    cases hv; cases hu
    rename_i t u
    have := EqAt.str_str (A := A) (s := s) x t x u
    rw [beq_self_eq_true] at this
    exact this
  have leafN : ∀ (A : Around) (s : Shared) (v u : Value), AtD s.heap v .none → AtD s.heap u .none → EqAt A s v u true := by
    intro A s v u hv hu
    obtain ⟨_, _, hv⟩ := hv
    obtain ⟨_, _, hu⟩ := hu
    cases hv; cases hu
    exact EqAt.same _
  have leaf : ∀ (b : Array UInt8) (A : Around) (s : Shared) (v u : Value), AtD s.heap v (.bytes b) → AtD s.heap u (.bytes b) → EqAt A s v u true := by
    intro b A s v u hv hu
    obtain ⟨_, _, hv⟩ := hv
    obtain ⟨_, _, hu⟩ := hu
    cases hv; cases hu
    exact fun prog w E Q h => eqBool_bytes (by simpa using h)
  intro n
  induction n with
  | zero =>
    intro d A s v u hk hv hu hr
    cases d <;> first | exact leaf _ A s v u hv hu | exact leafS _ A s v u hv hu | exact leafN A s v u hv hu | (simp [eqOk] at hk)
  | succ n ih =>
    intro d A s v u hk hv hu hr
    have items : ∀ (ds : List Dat) (xs ys : List Value) (n₁ n₂ : List (Addr × Obj)), ds.all (eqOk n) = true → (∀ p ∈ n₁, s.heap.get? p.1 = some p.2) → (∀ p ∈ n₂, s.heap.get? p.1 = some p.2) → DatAll n₁ xs ds → DatAll n₂ ys ds →
        ∀ j (h1 : j < xs.toArray.size) (h2 : j < ys.toArray.size), EqAt A.in1 s xs.toArray[j] ys.toArray[j] true := by
      intro ds xs ys n₁ n₂ hk h1 h2 d1 d2 j j1 j2
      obtain ⟨e1, he1, hi1⟩ := DatAll.at d1 (i := j) (v := xs.toArray[j]) (by simp)
      obtain ⟨e2, he2, hi2⟩ := DatAll.at d2 (i := j) (v := ys.toArray[j]) (by simp)
      rw [he1] at he2
      cases he2
      refine ih e1 A.in1 s _ _ ?_ ⟨n₁, h1, hi1⟩ ⟨n₂, h2, hi2⟩ ?_
      · exact List.all_eq_true.mp hk e1 (List.mem_of_getElem? he1)
      · show A.units + 1 + n < cLine
        lia
    cases d with
    | bytes b => exact leaf _ A s v u hv hu
    | str x => exact leafS _ A s v u hv hu
    | none => exact leafN A s v u hv hu
    | tuple ds =>
      obtain ⟨ax, xs, k1, n₁, rfl, g1, w1, a1⟩ := AtD.tuple hv
      obtain ⟨bx, ys, k2, n₂, rfl, g2, w2, a2⟩ := AtD.tuple hu
      by_cases e : ax = bx
      · subst e; exact EqAt.same _
      · have := RcAt.tuples (e := fun _ => true) ⟨_, g1, rfl, _, rfl⟩ ⟨_, g2, rfl, _, rfl⟩ (by lia) (items ds xs ys n₁ n₂ (by simpa [eqOk] using hk) w1 w2 a1 a2)
        have l1 := DatAll.length a1
        have l2 := DatAll.length a2
        have ez : ((List.range (min xs.toArray.size ys.toArray.size)).all (fun _ => true) && xs.toArray.size == ys.toArray.size) = true := by
          rw [all_true, Bool.true_and, beq_iff_eq, List.size_toArray, List.size_toArray, l1, l2]
        rw [ez] at this
        exact EqAt.of_refs e this
    | list ds =>
      obtain ⟨ax, xs, k1, n₁, rfl, g1, w1, a1⟩ := AtD.list hv
      obtain ⟨bx, ys, k2, n₂, rfl, g2, w2, a2⟩ := AtD.list hu
      by_cases e : ax = bx
      · subst e; exact EqAt.same _
      · have l1 := DatAll.length a1
        have l2 := DatAll.length a2
        have := RcAt.lists (e := fun _ => true) ⟨_, g1, rfl, _, rfl⟩ ⟨_, g2, rfl, _, rfl⟩ (by rw [List.size_toArray, List.size_toArray, l1, l2]) (by lia) (items ds xs ys n₁ n₂ (by simpa [eqOk] using hk) w1 w2 a1 a2)
        rw [all_true] at this
        exact EqAt.of_refs e this
    | _ => simp [eqOk] at hk
theorem ne_lists {prog : Program} {w : World} {A : Around} {E : Value → Shared → Prop} {s : Shared} {v u : Value} {ds : List Dat} {Q : Value → Shared → Prop} {n : Nat} (hv : AtD s.heap v (.list ds)) (hu : AtD s.heap u (.list ds)) (hk : eqOk (n + 1) (.list ds) = true) (hr : A.units + (n + 1) < cLine)
    (h : Q (.bool false) s) : wpAny (model prog w) A (compareOp .NotEq v u) Q E s := by
  obtain ⟨ax, xs, k1, n₁, rfl, g1, w1, a1⟩ := AtD.list hv
  obtain ⟨bx, ys, k2, n₂, rfl, g2, w2, a2⟩ := AtD.list hu
  have l1 := DatAll.length a1
  have l2 := DatAll.length a2
  have := RcNeAt.lists (A := A) (s := s) (l := ax) (b := bx) (e := fun _ => true) ⟨_, g1, rfl, _, rfl⟩ ⟨_, g2, rfl, _, rfl⟩ (by rw [List.size_toArray, List.size_toArray, l1, l2]) (by lia) (fun j j1 j2 => by
    obtain ⟨e1, he1, hi1⟩ := DatAll.at a1 (i := j) (v := xs.toArray[j]) (by simp)
    obtain ⟨e2, he2, hi2⟩ := DatAll.at a2 (i := j) (v := ys.toArray[j]) (by simp)
    rw [he1] at he2
    cases he2
    refine eqAtD n e1 A.in1 s _ _ ?_ ⟨n₁, w1, hi1⟩ ⟨n₂, w2, hi2⟩ ?_
    · rw [eqOk] at hk
      exact List.all_eq_true.mp hk e1 (List.mem_of_getElem? he1)
    · show A.units + 1 + n < cLine
      lia)
  rw [all_true] at this
  exact this prog w E Q h
theorem eq_lists {prog : Program} {w : World} {A : Around} {E : Value → Shared → Prop} {s : Shared} {v u : Value} {ds : List Dat} {Q : Value → Shared → Prop} {n : Nat} (hv : AtD s.heap v (.list ds)) (hu : AtD s.heap u (.list ds)) (hk : eqOk (n + 1) (.list ds) = true) (hr : A.units + (n + 1) < cLine)
    (h : Q (.bool true) s) : wpAny (model prog w) A (compareOp .Eq v u) Q E s := by
  obtain ⟨ax, xs, k1, n₁, rfl, g1, w1, a1⟩ := AtD.list hv
  obtain ⟨bx, ys, k2, n₂, rfl, g2, w2, a2⟩ := AtD.list hu
  have l1 := DatAll.length a1
  have l2 := DatAll.length a2
  have := RcAt.lists (A := A) (s := s) (l := ax) (b := bx) (e := fun _ => true) ⟨_, g1, rfl, _, rfl⟩ ⟨_, g2, rfl, _, rfl⟩ (by rw [List.size_toArray, List.size_toArray, l1, l2]) (by lia) (fun j j1 j2 => by
    obtain ⟨e1, he1, hi1⟩ := DatAll.at a1 (i := j) (v := xs.toArray[j]) (by simp)
    obtain ⟨e2, he2, hi2⟩ := DatAll.at a2 (i := j) (v := ys.toArray[j]) (by simp)
    rw [he1] at he2
    cases he2
    refine eqAtD n e1 A.in1 s _ _ ?_ ⟨n₁, w1, hi1⟩ ⟨n₂, w2, hi2⟩ ?_
    · rw [eqOk] at hk
      exact List.all_eq_true.mp hk e1 (List.mem_of_getElem? he1)
    · show A.units + 1 + n < cLine
      lia)
  rw [all_true] at this
  exact this prog w E Q h
theorem srt_eqOk : ∀ (n : Nat) (t : Tr) (d : Nat), Le n t → eqOk n (srtD d t) = true := by
  intro n
  induction n with
  | zero =>
    intro t d h
    cases t with
    | node ts => exact h.elim
    | leaf b => rfl
  | succ n ih =>
    intro t d h
    cases t with
    | leaf b => rfl
    | node ts =>
      rw [srtD, srtDs_eq]
      have key : (ts.map (srtD (d + 1))).all (eqOk n) = true := by
        rw [List.all_map, List.all_eq_true]
        intro t ht
        exact ih t (d + 1) (h t ht)
      unfold seqD
      split
      · rw [eqOk]; exact key
      · rw [eqOk]; exact key
theorem rows_eqOk (sts : List (List Wd)) : eqOk 4 (.list (sts.map fun st => rowD (rowOf st))) = true := by
  rw [eqOk, List.all_map, List.all_eq_true]
  intro st _
  show eqOk 3 (rowD (rowOf st)) = true
  unfold rowD
  rw [eqOk, List.all_map, List.all_eq_true]
  rintro ⟨k, v⟩ _
  show eqOk 2 (pairD (k, v)) = true
  unfold pairD
  cases v <;> simp [eqOk]
end Mine
end
section
open PySem PySem.W PySem.Spec PySem.Calls PyProof.Rows
namespace Mine
open PyProof.Rows.LCg
set_option maxRecDepth 100000
set_option maxHeartbeats 8000000
theorem kw_Law_0 : True := by
  k_with_none
  trivial
theorem kw_Law_1 : True := by
  (k_with "execs cons" => ((with_reducible show wpAny _ _ (execs (_ :: _) _) _ _ ⟨_, _, _, HAdd.hAdd _ _, _⟩); (try dsimp only); refine dropT ?_; intro tk9))
  (k_with "eval IfExp" => ((with_reducible rename HoldMark => hm9); clear hm9; refine Hold.mk ?_))
  (k_with "getMethod str" => (refine gm_encode ?_))
  trivial
theorem call_encode_pr {prog : Program} {w : World} {A : Around} {E : Value → Shared → Prop} {s : Shared} {al : Array UInt8} {sg : Str} {t : Tok} {Q : Value → Shared → Prop} (hp : Pr al sg) (h : ∀ t' k, Q (.bytes al t') { s with toks := k }) :
    wpAny (model prog w) A (call (.builtin "str.encode") [.str sg t]) Q E s := by
  rcases hp with ⟨rfl, rfl⟩ | ⟨rfl, rfl⟩
  · exact call_encode_of (enc_plus t) (by rw [sizeLine_eq]; decide) h
  · exact call_encode_of (enc_minus t) (by rw [sizeLine_eq]; decide) h
theorem kw_Law_2 : True := by
  (k_with "call builtin:str.encode" => (refine call_encode_pr (by assumption) ?_; intro t9 k9))
  (k_with "call ref" => (refine Hold.mk ?_))
  trivial
def SgP (h₀ : Heap) (L : Addr) (m : Str → Option Value) (news : List (Addr × Obj)) (s : Shared) (v : Value) (s' : Shared) : Prop := ∃ al sg t, Pr al sg ∧ v = .str sg t ∧ Fr h₀ L s'.heap m ∧ News h₀ L s'.heap news ∧ s' = { s with heap := s'.heap, toks := s'.toks }
theorem cutSg {M : Model} {A : Around} {t : Sem Value} {Q : Value → Shared → Prop} {E : Value → Shared → Prop} {s : Shared} {h₀ : Heap} {L : Addr} {m : Str → Option Value} {news : List (Addr × Obj)} (_ : Fr h₀ L s.heap m) (_ : News h₀ L s.heap news) (h : wpAny M A t (SgP h₀ L m news s) E s)
    (k : ∀ al sg t4 h tk, Pr al sg → Fr h₀ L h m → News h₀ L h news → Q (.str sg t4) { s with heap := h, toks := tk }) : wpAny M A t Q E s :=
  cutS _ h (by rintro v s' ⟨al, sg, t4, hp, rfl, f, n, e⟩; rw [e]; exact k al sg t4 _ _ hp f n)
theorem ne_same {prog : Program} {w : World} {A : Around} {E : Value → Shared → Prop} {s : Shared} {x : Str} {t u : Tok} {Q : Value → Shared → Prop} (h : Q (.bool false) s) : wpAny (model prog w) A (compareOp .NotEq (.str x t) (.str x u)) Q E s := by
  refine ne_str ?_
  rw [bne_self_eq_false]; exact h
theorem eq_same {prog : Program} {w : World} {A : Around} {E : Value → Shared → Prop} {s : Shared} {x : Str} {t u : Tok} {Q : Value → Shared → Prop} (h : Q (.bool true) s) : wpAny (model prog w) A (compareOp .Eq (.str x t) (.str x u)) Q E s := by
  refine eq_str ?_
  rw [beq_self_eq_true]; exact h
theorem kw_Law_3 : True := by
  (k_with "compareOp NotEq str str" => (with_reducible refine ne_same ?_))
  (k_with "compareOp Eq str str" => (refine Hold.mk ?_))
  (k_with "compareOp NotEq ref ref" => (refine Hold.mk ?_))
  (k_with "compareOp Eq ref ref" => (refine Hold.mk ?_))
  (k_with "call builtin:len" => (refine len_sOf9 (by lia) ?_))
  (k_with "subscriptTail" => ((with_reducible show wpAny _ _ (subscriptTail _ (Expr.Slice none (some _) none _) (Value.str (sOf _) _) _) _ _ _); (with_reducible rename Fr _ _ _ _ => F'); (with_reducible rename News _ _ _ _ => N'); (refine slice_strN_ns (hsz := ?hsz) (s := ⟨_, _, _, _, _⟩) F' N' ?_); (case hsz => exact sOf_fits (by lia)); intro _ _ _ _ _))
  (k_with "binaryOp Add str str" => (refine' add_gen ?hx ?hy ?hl ?_; (case hx => exact slice80 (by omega)); (case hy => exact lit_tr); (case hl => (rw [List.length_take]; show _ + 15 ≤ 1000000; omega)); intro t9 k9))
  trivial
def StP (h₀ : Heap) (L : Addr) (m : Str → Option Value) (news : List (Addr × Obj)) (x : Str) (s : Shared) (v : Value) (s' : Shared) : Prop := ∃ t, v = .str x t ∧ Fr h₀ L s'.heap m ∧ News h₀ L s'.heap news ∧ s' = { s with heap := s'.heap, toks := s'.toks }
theorem cutSt {M : Model} {A : Around} {t : Sem Value} {Q : Value → Shared → Prop} {E : Value → Shared → Prop} {s : Shared} {h₀ : Heap} {L : Addr} {m : Str → Option Value} {news : List (Addr × Obj)} (x : Str) (_ : Fr h₀ L s.heap m) (_ : News h₀ L s.heap news) (h : wpAny M A t (StP h₀ L m news x s) E s)
    (k : ∀ t4 h tk, Fr h₀ L h m → News h₀ L h news → Q (.str x t4) { s with heap := h, toks := tk }) : wpAny M A t Q E s :=
  cutS _ h (by rintro v s' ⟨t4, rfl, f, n, e⟩; rw [e]; exact k t4 _ _ f n)
theorem rows_of {sts : List (List Wd)} {l : List Nat} (g : StG sts l) (w : World) (t : Tok) (hz : l.length ≤ 100000) : PureC w 2 193 [.str (sOf l) t] [] (fun _ => True) (NewD (.list (sts.map fun st => rowD (rowOf st)))) := by
  obtain ⟨ne, ok, wl, txt⟩ := g
  subst txt
  cases sts with
  | nil => exact absurd rfl ne
  | cons st0 more => exact rows_spec w st0 more t ok hz wl
theorem split_of {sts : List (List Wd)} {l : List Nat} (g : StG sts l) (w : World) (ax : Addr) (t : Tok) (hz : l.length ≤ 100000) (hq : ∀ c ∈ l, c ≠ 34) : PureC w 2 77 [.ref ax] [] (fun h => h.IsList ax #[.str (sOf l) t]) (NewD (.list (sts.map fun st => rowD (rowOf st)))) := by
  obtain ⟨ne, ok, wl, txt⟩ := g
  subst txt
  exact split_spec w ax sts t ⟨ok⟩ ne hz hq
theorem genPE {α : Type} {M : Model} {A : Around} {t : Sem α} {Q : α → Shared → Prop} {E : Value → Shared → Prop} {s : Shared} (h : ∀ Q' : α → Shared → Prop, Q' = Q → ∀ E' : Value → Shared → Prop, wpAny M A t Q' E' s) : wpAny M A t Q E s := h Q rfl E
theorem lawT : PySem.Challenge.rw_oy0125_01.Holds := hd (by
  k_go0
  all_goals try k_fold
  refine genPE fun Q' hQ' E' => ?_
  have hm9 := HoldMark.mk
  k_steps
  unfold Hold
  (rename Fr _ _ _ _ => F1); (rename News _ _ _ _ => N1)
  refine cutSg F1 N1 ?_ ?_
  · k_steps
    · exact ⟨_, _, _, .inl ⟨rfl, rfl⟩, rfl, by assumption, by assumption, rfl⟩
    · exact ⟨_, _, _, .inr ⟨rfl, rfl⟩, rfl, by assumption, by assumption, rfl⟩
  clear F1 N1
  intro al sg t4 h4 tk4 hp F1 N1
  k_steps
  unfold Hold
  (rename Fr _ _ _ _ => F1); (rename News _ _ _ _ => N1)
  rename IntsAre _ _ => hI
  rename ¬ (_ < _) => hc
  have hl := hI.length
  rename Top _ _ _ _ _ (ghostOf _ _) => T9
  have T9 := topRead_of T9
  refine PureC.use (tree_spec _ _ _ _ hI (by lia)) F1 N1 (by assumption) T9 ?lo (IsList.keeps lifted F1.keep) ?_
  case lo => exact ⟨rfl, rfl, Nat.le_of_ble_eq_true rfl, Nat.le_of_ble_eq_true rfl⟩
  rintro vT h5 tk5 F5 N5 k5 ⟨ts, hle, hwt, nwT, hfT, hdT⟩
  replace N5 := News.app N5 (Fresh.news F1 hfT)
  clear k5 hfT F1 N1
  have hIs : IsAl al := by rcases hp with ⟨h, _⟩ | ⟨h, _⟩; exact .inl h; exact .inr h
  obtain ⟨sts, gT, q34, run, rlen⟩ := told_sts hp (fig_ok hp) hle
  have tlen := tol_len (al := al) 4 (.node ts) 0 hle
  have cT := fun w v u => tol_spec w al sg hp 4 (.node ts) 0 v u (by lia) hle (by lia)
  have cR := fun w v => rep_long w al sg hp ts 4 v (by lia) hle (by lia)
  have cS := fun w v => rep_short w al sg hp ts 4 v (by lia) hle (by lia)
  have sh := @short_sts al sg hp 4 (.node ts) hle
  generalize tolT (encT al) 0 (.node ts) = T at *
  obtain rfl := gT.txt
  have hz : (stsTxt sts).length ≤ 220 := by lia
  k_steps
  unfold Hold
  (rename Fr _ _ _ _ => F1); (rename News _ _ _ _ => N1)
  refine PureC.use (wri_spec _ al hIs 4 (.node ts) 0 _ _ (by lia) hle (by lia)) F1 N1 (by assumption) T9 ?lo (AtD.of (News.sub N1 fun p hp => by simp [hp]) hdT) ?_
  case lo => exact ⟨rfl, rfl, Nat.le_of_ble_eq_true rfl, Nat.le_of_ble_eq_true rfl⟩
  rintro vW h5 tk5 F5 N5 k5 ⟨nwW, hfW, hdW⟩
  replace N5 := News.app N5 (Fresh.news F1 hfW)
  clear k5 hfW F1 N1
  k_steps
  unfold Hold
  (rename Fr _ _ _ _ => F1); (rename News _ _ _ _ => N1)
  refine PureC.use (cT _ _ _) F1 N1 (by assumption) T9 ?lo (AtD.of (News.sub N1 fun p hp => by simp [hp]) hdT) ?_
  case lo => exact ⟨rfl, rfl, Nat.le_of_ble_eq_true rfl, Nat.le_of_ble_eq_true rfl⟩
  rintro vX h5 tk5 F5 N5 k5 ⟨tX, rfl⟩
  clear k5 F1 N1
  k_steps
  unfold Hold
  (rename Fr _ _ _ _ => F1); (rename News _ _ _ _ => N1)
  refine PureC.use (cR _ _) F1 N1 (by assumption) T9 ?lo (AtD.of (News.sub N1 fun p hp => by simp [hp]) hdW) ?_
  case lo => exact ⟨rfl, rfl, Nat.le_of_ble_eq_true rfl, Nat.le_of_ble_eq_true rfl⟩
  rintro vX h5 tk5 F5 N5 k5 ⟨tX2, rfl⟩
  clear k5 F1 N1
  k_steps
  unfold Hold
  (rename Fr _ _ _ _ => F1); (rename News _ _ _ _ => N1)
  refine PureC.use (split_of gT _ _ _ (by lia) q34) F1 N1 (by assumption) T9 ?lo (News.isList N1 (.head _)) ?_
  case lo => exact ⟨rfl, rfl, Nat.le_of_ble_eq_true rfl, Nat.le_of_ble_eq_true rfl⟩
  rintro vR h5 tk5 F5 N5 k5 ⟨nwR, hfR, hdR⟩
  replace N5 := News.app N5 (Fresh.news F1 hfR)
  clear k5 hfR F1 N1
  have cL := fun w t => rows_of gT w t (by lia)
  k_steps
  unfold Hold
  (rename Fr _ _ _ _ => F1); (rename News _ _ _ _ => N1)
  refine PureC.use (cL _ _) F1 N1 (by assumption) T9 ?lo trivial ?_
  case lo => exact ⟨rfl, rfl, Nat.le_of_ble_eq_true rfl, Nat.le_of_ble_eq_true rfl⟩
  rintro vL h5 tk5 F5 N5 k5 ⟨nwL, hfL, hdL⟩
  replace N5 := News.app N5 (Fresh.news F1 hfL)
  clear k5 hfL F1 N1
  obtain ⟨aR, eR⟩ : ∃ a, vR = .ref a := by cases hdR; exact ⟨_, rfl⟩
  obtain ⟨aL, eL⟩ : ∃ a, vL = .ref a := by cases hdL; exact ⟨_, rfl⟩
  subst eR; subst eL
  k_steps
  unfold Hold
  (rename Fr _ _ _ _ => F1); (rename News _ _ _ _ => N1)
  refine ne_lists (n := 3) (AtD.of (News.sub N1 fun p hp => by simp [hp]) hdR) (AtD.of (News.sub N1 fun p hp => by simp [hp]) hdL) (rows_eqOk sts) ?hu ?_
  case hu => exact Nat.le_of_ble_eq_true rfl
  clear hdL
  k_steps
  unfold Hold
  (rename Fr _ _ _ _ => F1); (rename News _ _ _ _ => N1)
  have em : (sts.map fun st => rowD (rowOf st)) = (sts.map rowOf).map rowD := by rw [List.map_map]; rfl
  rw [em] at hdR
  refine PureC.use (rebuilt_spec _ al _ hIs (sts.map rowOf) _ _ run (by lia)) F1 N1 (by assumption) T9 ?lo (AtD.of (News.sub N1 fun p hp => by simp [hp]) hdR) ?_
  case lo => exact ⟨rfl, rfl, Nat.le_of_ble_eq_true rfl, Nat.le_of_ble_eq_true rfl⟩
  rintro vB h5 tk5 F5 N5 k5 ⟨nwB, hfB, hdB⟩
  replace N5 := News.app N5 (Fresh.news F1 hfB)
  clear k5 hfB F1 N1 hdR
  obtain ⟨aB, eB⟩ : ∃ a, vB = .ref a := by cases hdB; exact ⟨_, rfl⟩
  subst eB
  k_steps
  unfold Hold
  (rename Fr _ _ _ _ => F1); (rename News _ _ _ _ => N1)
  refine ne_lists (n := 4) (AtD.of (News.sub N1 fun p hp => by simp [hp]) hdB) (AtD.of N1 (.list (.head _) (.cons (hdT.mono fun p hp => by simp [hp]) .nil))) ?hk ?hu ?_
  case hk => simp only [eqOk, List.all_cons, List.all_nil, Bool.and_true]; exact srt_eqOk 4 _ 0 hle
  case hu => exact Nat.le_of_ble_eq_true rfl
  clear hdB
  have hm9 := HoldMark.mk
  k_steps
  unfold Hold
  (rename Fr _ _ _ _ => F1); (rename News _ _ _ _ => N1)
  refine cutSt (sOf (shortT (stsTxt sts))) F1 N1 ?_ ?_
  · k_steps
    · rename _ < (80 : Int) => hf
      refine ⟨_, congrArg (Value.str · _) ?_, by assumption, by assumption, rfl⟩
      unfold shortT; rw [if_pos (by lia)]
    · rename ¬ _ < (80 : Int) => hf
      refine ⟨_, congrArg (Value.str · _) ?_, by assumption, by assumption, rfl⟩
      unfold shortT; rw [if_neg (by lia), slice80 (by lia), lit_tr, sOf_app]
  intro t6 h6 tk6 F6 N6
  k_steps
  unfold Hold
  (rename Fr _ _ _ _ => F1); (rename News _ _ _ _ => N1)
  refine PureC.use (cS _ _) F1 N1 (by assumption) T9 ?lo (AtD.of (News.sub N1 fun p hp => by simp [hp]) hdW) ?_
  case lo => exact ⟨rfl, rfl, Nat.le_of_ble_eq_true rfl, Nat.le_of_ble_eq_true rfl⟩
  rintro vX h5 tk5 F5 N5 k5 ⟨tX3, rfl⟩
  clear k5 F1 N1
  k_steps
  unfold Hold
  refine eq_str ?_
  by_cases hb : (sOf (shortT (stsTxt sts)) == sOf (stsTxt sts)) = true
  · rw [hb]
    clear hb
    k_steps
    subst hQ'
    k_steps
  · have hf : ¬ (stsTxt sts).length < 80 := by
      intro hf
      refine hb ?_
      unfold shortT; rw [if_pos hf]; exact beq_self_eq_true _
    rw [Bool.eq_false_iff.mpr hb]
    obtain ⟨st2, g2, q2, z2⟩ := sh hf
    clear hb
    k_steps
    unfold Hold
    (rename Fr _ _ _ _ => F1); (rename News _ _ _ _ => N1)
    refine PureC.use (split_of g2 _ _ _ (by lia) q2) F1 N1 (by assumption) T9 ?lo (News.isList N1 (.head _)) ?_
    case lo => exact ⟨rfl, rfl, Nat.le_of_ble_eq_true rfl, Nat.le_of_ble_eq_true rfl⟩
    rintro vR h5 tk5 F5 N5 k5 ⟨nwR, hfR, hdR⟩
    replace N5 := News.app N5 (Fresh.news F1 hfR)
    clear k5 hfR F1 N1
    k_steps
    unfold Hold
    (rename Fr _ _ _ _ => F1); (rename News _ _ _ _ => N1)
    refine PureC.use (rows_of g2 _ _ (by lia)) F1 N1 (by assumption) T9 ?lo trivial ?_
    case lo => exact ⟨rfl, rfl, Nat.le_of_ble_eq_true rfl, Nat.le_of_ble_eq_true rfl⟩
    rintro vL h5 tk5 F5 N5 k5 ⟨nwL, hfL, hdL⟩
    replace N5 := News.app N5 (Fresh.news F1 hfL)
    clear k5 hfL F1 N1
    obtain ⟨aR, eR⟩ : ∃ a, vR = .ref a := by cases hdR; exact ⟨_, rfl⟩
    obtain ⟨aL, eL⟩ : ∃ a, vL = .ref a := by cases hdL; exact ⟨_, rfl⟩
    subst eR; subst eL
    k_steps
    unfold Hold
    (rename Fr _ _ _ _ => F1); (rename News _ _ _ _ => N1)
    refine eq_lists (n := 3) (AtD.of (News.sub N1 fun p hp => by simp [hp]) hdR) (AtD.of (News.sub N1 fun p hp => by simp [hp]) hdL) (rows_eqOk st2) ?hu ?_
    case hu => exact Nat.le_of_ble_eq_true rfl
    clear hdL hdR
    k_steps
    subst hQ'
    k_steps)
end Mine
end
open PySem PySem.W PyProof.Rows
theorem PySem.Challenge.cw_oy0125_01_holds : PySem.Challenge.rw_oy0125_01.Holds := by
  exact Mine.lawT
