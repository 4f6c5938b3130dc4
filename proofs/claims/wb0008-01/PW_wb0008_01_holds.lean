import PyProof.Rows.All
import Wide.All
import OpenK.AllK
import Wide.FinOn
import PySem.Challenge.RW_wb0008_01
set_option Elab.async false
set_option maxRecDepth 100000
set_option linter.unusedSimpArgs false
set_option linter.unusedVariables false
section
open PySem PySem.W PyProof.Rows
namespace Mine
set_option maxHeartbeats 8000000 in
open_top hd for PySem.Challenge.rw_wb0008_01
end Mine
end
section
open PySem PySem.W PyProof.Rows PySem.Calls
namespace Mine
/-- all that stands in h stands in h' -/
abbrev Ext (h h' : Heap) : Prop := ∀ b o, h.get? b = some o → h'.get? b = some o
theorem Ext.refl {h : Heap} : Ext h h := fun _ _ e => e
theorem Ext.trans {a b c : Heap} (x : Ext a b) (y : Ext b c) : Ext a c := fun p o e => y p o (x p o e)
theorem Ext.push {h : Heap} (o : Obj) : Ext h (h.push o) := fun _ _ e => Heap.get?_push_of_some _ e
/-- what h₂ has and h₁ has not stands in h' -/
def NewIn (h₁ h₂ h' : Heap) : Prop := ∀ b o, h₁.get? b = none → h₂.get? b = some o → h'.get? b = some o
end Mine
end
section
open PySem PySem.W PyProof.Rows PySem.Calls
namespace Mine
theorem slot_pat_search : Slot "re.Pattern" "search" "re.Pattern.search" :=
  .of (owner := "re.Pattern") (n := "search") (by rw [typeLookup_type, builtinLookup_eq_fast]; kernel_rfl) (by decide +kernel) (by decide +kernel) (by decide +kernel)
    (by first | exact .inl (by decide +kernel) | exact .inr (by decide +kernel)) (by rw [isSubtype_type]; kernel_rfl)
theorem type_pat_search : typeOf (.builtin "re.Pattern.search") = pure (.type "method_descriptor") := by show builtinType _ = _; rw [builtinType_eq_fast]; kernel_rfl
theorem entry_pat_search : entryFor table "re.Pattern.search" = some Builtin.«re.Pattern.search» := entryFor_of_tree (by kernel_rfl)
theorem args_pat_search (a b : Value) : argsOk "re.Pattern.search" ⟨[a, b], []⟩ := by
  unfold argsOk; kernel_rfl
theorem pat_getattribute : typeLookup (.type "re.Pattern") "__getattribute__" = pure (some (.builtin "object.__getattribute__")) := by rw [typeLookup_type, builtinLookup_eq_fast]; kernel_rfl
theorem pat_getattr_none : typeLookup (.type "re.Pattern") "__getattr__" = pure none := by rw [typeLookup_type, builtinLookup_eq_fast]; kernel_rfl
theorem match_bool_none : typeLookup (.type "re.Match") "__bool__" = pure none := by rw [typeLookup_type, builtinLookup_eq_fast]; kernel_rfl
theorem match_len_none : typeLookup (.type "re.Match") "__len__" = pure none := by rw [typeLookup_type, builtinLookup_eq_fast]; kernel_rfl
end Mine
end
section
open PySem PySem.W PyProof.Rows PySem.Calls
namespace Mine
/-- the words of the pattern, out of the given text -/
def cdL : List Nat := match Flt.patsOf PySem.Challenge.pw_wb0008_01 with | r :: _ => r.code | [] => []
def cd : Array Nat := cdL.toArray
theorem cd_size : cd.size = 24 := by decide +kernel
theorem cd_9 : cd.getD 9 0 = 16 := by decide +kernel
theorem cd_10 : cd.getD 10 0 = 46 := by decide +kernel
theorem cd_11 : cd.getD 11 0 = 24 := by decide +kernel
theorem cd_12 : cd.getD 12 0 = 9 := by decide +kernel
theorem cd_13 : cd.getD 13 0 = 1 := by decide +kernel
theorem cd_14 : cd.getD 14 0 = 4294967295 := by decide +kernel
theorem cd_15 : cd.getD 15 0 = 13 := by decide +kernel
theorem cd_17 : cd.getD 17 0 = 8 := by decide +kernel
theorem cd_18 : cd.getD 18 0 = 0 := by decide +kernel
theorem cd_19 : cd.getD 19 0 = 0 := by decide +kernel
theorem cd_21 : cd.getD 21 0 = 6 := by decide +kernel
theorem cd_22 : cd.getD 22 0 = 5 := by decide +kernel
theorem cd_23 : cd.getD 23 0 = 1 := by decide +kernel
theorem op_16 : Sre.ops[16]? = some Sre.Op.LITERAL := rfl
theorem op_24 : Sre.ops[24]? = some Sre.Op.REPEAT_ONE := rfl
theorem op_13 : Sre.ops[13]? = some Sre.Op.IN := rfl
theorem op_8 : Sre.ops[8]? = some Sre.Op.CATEGORY := rfl
theorem op_0 : Sre.ops[0]? = some Sre.Op.FAILURE := rfl
theorem op_6 : Sre.ops[6]? = some Sre.Op.AT := rfl
theorem op_1 : Sre.ops[1]? = some Sre.Op.SUCCESS := rfl

def cfg (t : Array Nat) (st pc p hd : Nat) (om : Bool) (fs : List Sre.Frame) (wt : Nat) (ans : Option Bool) (sn : Sre.Seen) : Sre.M :=
  { code := cd, text := t, lim := t.size, start := st, lastStart := t.size, pc := pc, pos := p, handed := hd, outermost := om, marks := #[], frames := fs, weight := wt, answer := ans, seen := sn }

variable {t : Array Nat} {st p hd wt : Nat} {om : Bool} {fs : List Sre.Frame} {sn : Sre.Seen}
theorem step_lit (hp : p < t.size) (hc : t.getD p 0 = 46) :
    (cfg t st 9 p hd om fs wt none sn).step = cfg t st 11 (p + 1) hd om fs wt none (sn.add 16) := by
  simp only [cfg, Sre.M.step, Option.isSome_none, Bool.false_eq_true, if_false, cd_size, Sre.M.exec, Sre.M.word, Nat.add_zero, Nat.reduceAdd, cd_9, op_16, ge_iff_le, Nat.not_le.mpr hp, Sre.accepts, cd_10, hc, Sre.itemWidth, beq_self_eq_true]
  rfl
theorem step_litN (hp : p < t.size) (hc : t.getD p 0 ≠ 46) :
    (cfg t st 9 p hd om fs wt none sn).step = cfg t st 9 p hd om fs wt (some false) (sn.add 16) := by
  have : (t.getD p 0 == 46) = false := by simpa using hc
  simp only [cfg, Sre.M.step, Option.isSome_none, Bool.false_eq_true, if_false, cd_size, Sre.M.exec, Sre.M.word, Nat.add_zero, Nat.reduceAdd, cd_9, op_16, ge_iff_le, Nat.not_le.mpr hp, Sre.accepts, cd_10, this, Sre.itemWidth, Sre.M.say]
  rfl
theorem step_litE (hp : t.size ≤ p) :
    (cfg t st 9 p hd om fs wt none sn).step = cfg t st 9 p hd om fs wt (some false) (sn.add 16) := by
  simp only [cfg, Sre.M.step, Option.isSome_none, Bool.false_eq_true, if_false, cd_size, Sre.M.exec, Sre.M.word, Nat.add_zero, Nat.reduceAdd, cd_9, op_16, ge_iff_le, hp, if_true, Sre.M.say]
  rfl

/-- the frame that stands below a try at s -/
def nf (s : Nat) (om : Bool) : Sre.Frame := { wait := .nextStart, pc := 9, pos := s, outermost := om }
theorem attempt_at {s : Nat} {om' : Bool} {pc : Nat} :
    (cfg t st pc p hd om fs wt none sn).attempt { wait := .nextStart, pc := 9, pos := s, outermost := om' } 9 s om' =
      if wt + 1 > 16777216 then (cfg t st pc p hd om fs wt none sn).stick "frames:memory" else cfg t st 9 s s om' (nf s om' :: fs) (wt + 1) none sn := rfl
theorem hasFirst (m : Sre.M) (h : m.code = cd) : m.hasFirstSet = false := by
  unfold Sre.M.hasFirstSet; rw [h]; decide +kernel
/-- a try at s falls, and s is not the last place: the next one -/
theorem step_next {s : Nat} {o' : Bool} {pc : Nat} (hs : s < t.size) :
    (cfg t st pc p hd om [nf s o'] 1 (some false) sn).step = cfg t (s + 1) 9 (s + 1) (s + 1) false [nf (s + 1) false] 1 none sn := by
  have h1 : (cfg t st pc p hd om [nf s o'] 1 (some false) sn).step = Sre.M.attemptFrom { cfg t st 9 s hd o' [] 0 none sn with mustAdvance := false } (s + 1) false := by
    simp only [cfg, Sre.M.step, Option.isSome_none, Bool.false_eq_true, if_false, Sre.M.resume, nf]
    exact Eq.trans (if_pos hs) rfl
  rw [h1]
  unfold Sre.M.attemptFrom
  rw [hasFirst _ rfl]
  rfl
theorem step_last {s : Nat} {o' : Bool} {pc : Nat} (hs : t.size ≤ s) :
    (cfg t st pc p hd om [nf s o'] 1 (some false) sn).step = cfg t st 9 s hd o' [] 0 (some false) sn := by
  simp only [cfg, Sre.M.step, Option.isSome_none, Bool.false_eq_true, if_false, Sre.M.resume, nf, Sre.M.say]
  exact Eq.trans (if_neg (Nat.not_lt.mpr hs)) rfl
theorem step_nextY {s : Nat} {o' : Bool} {pc : Nat} :
    (cfg t st pc p hd om [nf s o'] 1 (some true) sn).step = cfg t st 9 s hd o' [] 0 (some true) sn := by
  simp only [cfg, Sre.M.step, Option.isSome_none, Bool.false_eq_true, if_false, Sre.M.resume, nf, if_true, Sre.M.say]
  rfl
theorem step_end {b : Bool} {pc : Nat} :
    (cfg t st pc p hd om [] wt (some b) sn).step.outcome = some (if b then .matched else .failed) := rfl

/-- how many figures stand at p, n at most -/
def figs (t : Array Nat) : Nat → Nat → Nat
  | 0, _ => 0
  | n + 1, p => if Sre.isDigit (t.getD p 0) then figs t n (p + 1) + 1 else 0
theorem cat0 (c : Nat) : Sre.category 0 c = .ok (Sre.isDigit c) := by
  unfold Sre.category
  show Except.ok (Sre.isDigit c != false) = _
  cases Sre.isDigit c <;> rfl
theorem inSet_fig (n c : Nat) (sn : Sre.Seen) : ∃ sn', Sre.inSet cd c (n + 1 + 1) 17 true sn = .ok (Sre.isDigit c, sn') := by
  unfold Sre.inSet
  simp only [Nat.add_zero, Nat.reduceAdd, cd_17, op_8, cd_18, cat0]
  cases h : Sre.isDigit c
  · refine ⟨(((sn.add 8).add (55 + 0)).add 0), ?_⟩
    show Sre.inSet cd c (n + 1) 19 true ((sn.add 8).add (55 + 0)) = _
    unfold Sre.inSet
    simp only [Nat.add_zero, Nat.reduceAdd, cd_19, op_0, Bool.not_true]
  · exact ⟨_, rfl⟩
theorem accepts_fig (c : Nat) (sn : Sre.Seen) : ∃ sn', Sre.accepts cd 15 c sn = .ok (Sre.isDigit c, sn') := by
  obtain ⟨s', h⟩ := inSet_fig 22 c sn
  refine ⟨s', ?_⟩
  simp only [Sre.accepts, cd_15, op_13, cd_size, Nat.reduceAdd]
  exact h
theorem run_figs : ∀ (n p found : Nat) (sn : Sre.Seen), ∃ sn', Sre.run cd t 15 n p found sn = .ok (found + figs t n p, sn')
  | 0, p, found, sn => ⟨sn, rfl⟩
  | n + 1, p, found, sn => by
    obtain ⟨s1, h1⟩ := accepts_fig (t.getD p 0) sn
    unfold Sre.run figs
    rw [h1]
    cases h : Sre.isDigit (t.getD p 0)
    · exact ⟨s1, rfl⟩
    · obtain ⟨s2, h2⟩ := run_figs n (p + 1) (found + 1) s1
      exact ⟨s2, by simp only [if_true]; show Sre.run cd t 15 n (p + 1) (found + 1) s1 = _; rw [h2]; congr 2; omega⟩
/-- the frame of the figures' run -/
def gf (p n : Nat) (om : Bool) : Sre.Frame := { wait := .giveBack, pc := 11, pos := p, outermost := om, count := (n : Int) }
theorem step_run (hp : p < t.size) (hw : wt + 1 ≤ 16777216) (hl : t.size < 4294967295) (hf : figs t (t.size - p) p ≠ 0) :
    ∃ sn', (cfg t st 11 p hd om fs wt none sn).step = cfg t st 21 (p + figs t (t.size - p) p) (p + figs t (t.size - p) p) om (gf (p + figs t (t.size - p) p) (figs t (t.size - p) p) om :: fs) (wt + 1) none sn' := by
  have hr : ((t.size : Int) - (p : Int)).toNat = t.size - p := by omega
  have hm : min 4294967295 (t.size - p) = t.size - p := by omega
  obtain ⟨s2, h2⟩ := run_figs (t := t) (t.size - p) p 0 ((sn.add 24).add 13)
  refine ⟨s2, ?_⟩
  have h3 : ¬ (figs t (t.size - p) p < 1) := by omega
  have h4 : ¬ ((1 : Nat) : Int) > (t.size : Int) - (p : Int) := by omega
  have h5 : ¬ (wt + 1 > 16777216) := by omega
  simp only [cfg, Sre.M.step, Option.isSome_none, Bool.false_eq_true, if_false, cd_size, Sre.M.exec, Sre.M.word, Nat.add_zero, Nat.reduceAdd, cd_11, op_24, cd_13, cd_14, cd_15, hr, hm, h4, h2, Nat.zero_add, h3, Nat.reduceLT, if_true]
  simp only [Sre.M.afterRun, Sre.M.attempt, Sre.M.word, Nat.reduceAdd, cd_12, Sre.M.keep, Sre.M.frame, Option.isSome_none, Bool.false_eq_true, if_false]
  show (if wt + 1 > 16777216 then _ else _) = _
  rw [if_neg h5]
  rfl
theorem step_runN (hl : t.size < 4294967295) (hf : figs t (t.size - p) p = 0) :
    ∃ sn', (cfg t st 11 p hd om fs wt none sn).step = cfg t st 11 p hd om fs wt (some false) sn' := by
  by_cases hp : p < t.size
  · have hr : ((t.size : Int) - (p : Int)).toNat = t.size - p := by omega
    have hm : min 4294967295 (t.size - p) = t.size - p := by omega
    obtain ⟨s2, h2⟩ := run_figs (t := t) (t.size - p) p 0 ((sn.add 24).add 13)
    refine ⟨s2, ?_⟩
    rw [hf] at h2
    have h4 : ¬ ((1 : Nat) : Int) > (t.size : Int) - (p : Int) := by omega
    simp only [cfg, Sre.M.step, Option.isSome_none, Bool.false_eq_true, if_false, cd_size, Sre.M.exec, Sre.M.word, Nat.add_zero, Nat.reduceAdd, cd_11, op_24, cd_13, cd_14, cd_15, hr, hm, h4, h2, Nat.zero_add, Nat.reduceLT, if_true, Sre.M.say]
  · refine ⟨sn.add 24, ?_⟩
    have h4 : ((1 : Nat) : Int) > (t.size : Int) - (p : Int) := by omega
    simp only [cfg, Sre.M.step, Option.isSome_none, Bool.false_eq_true, if_false, cd_size, Sre.M.exec, Sre.M.word, Nat.add_zero, Nat.reduceAdd, cd_11, op_24, cd_13, cd_14, cd_15, h4, if_true, Nat.reduceLT, Sre.M.say]
/-- the end of the text -/
theorem step_at (hp : p = t.size) : ∃ sn', (cfg t st 21 p hd om fs wt none sn).step = cfg t st 23 p hd om fs wt none sn' := by
  subst hp
  refine ⟨(sn.add 6).add (43 + 5), ?_⟩
  simp only [cfg, Sre.M.step, Option.isSome_none, Bool.false_eq_true, if_false, cd_size, Sre.M.exec, Sre.M.word, Nat.add_zero, Nat.reduceAdd, cd_21, op_6, cd_22, Sre.M.isAt, beq_self_eq_true, Bool.true_or, if_true, Nat.reduceLT]
theorem step_atN (hp : p < t.size) (hc : t.getD p 0 ≠ 10) : ∃ sn', (cfg t st 21 p hd om fs wt none sn).step = cfg t st 21 p hd om fs wt (some false) sn' := by
  have h1 : (p == t.size) = false := by simp; omega
  have h2 : (t.getD p 0 == 10) = false := by simpa using hc
  refine ⟨(sn.add 6).add (43 + 5), ?_⟩
  simp only [cfg, Sre.M.step, Option.isSome_none, Bool.false_eq_true, if_false, cd_size, Sre.M.exec, Sre.M.word, Nat.add_zero, Nat.reduceAdd, cd_21, op_6, cd_22, Sre.M.isAt, h1, h2, Bool.and_false, Bool.or_false, if_true, Nat.reduceLT, Sre.M.say]
theorem step_ok : ∃ sn', (cfg t st 23 p hd om fs wt none sn).step = cfg t st 23 p p om fs wt (some true) sn' := by
  refine ⟨sn.add 1, ?_⟩
  simp only [cfg, Sre.M.step, Option.isSome_none, Bool.false_eq_true, if_false, cd_size, Sre.M.exec, Sre.M.word, Nat.add_zero, Nat.reduceAdd, cd_23, op_1, Bool.false_and, Bool.or_false, Bool.and_false, if_true, Nat.reduceLT, Sre.M.say]
theorem step_giveY {n : Nat} {pc q : Nat} {o' : Bool} :
    (cfg t st pc p hd om (gf q n o' :: fs) (wt + 1) (some true) sn).step = cfg t st 11 q hd o' fs wt (some true) sn := by
  simp only [cfg, Sre.M.step, Option.isSome_none, Bool.false_eq_true, if_false, Sre.M.resume, gf, if_true, Sre.M.say]
  rfl
/-- one figure given back -/
theorem step_give {n : Nat} {pc q : Nat} {o' : Bool} (hw : wt + 1 ≤ 16777216) :
    (cfg t st pc p hd om (gf (q + 1) (n + 2) o' :: fs) (wt + 1) (some false) sn).step = cfg t st 21 q q o' (gf q (n + 1) o' :: fs) (wt + 1) none sn := by
  have h5 : ¬ (wt + 1 > 16777216) := by omega
  have h6 : ¬ (((n + 2 : Nat) : Int) - 1 < ((1 : Nat) : Int)) := by omega
  have h7 : ((n + 2 : Nat) : Int) - 1 = ((n + 1 : Nat) : Int) := by omega
  simp only [cfg, Sre.M.step, Option.isSome_none, Bool.false_eq_true, if_false, Sre.M.resume, gf, Sre.M.word, Nat.reduceAdd, cd_13, h6, Nat.add_sub_cancel, h7, Sre.M.putBack]
  simp only [Sre.M.afterRun, Sre.M.attempt, Sre.M.word, Nat.reduceAdd, cd_12, Sre.M.keep, Sre.M.frame, Option.isSome_none, Bool.false_eq_true, if_false]
  show (if wt + 1 - (1 + 0) + 1 + 0 > 16777216 then _ else _) = _
  rw [if_neg (by omega)]
  rfl
theorem step_giveN {pc q : Nat} {o' : Bool} :
    (cfg t st pc p hd om (gf q 1 o' :: fs) (wt + 1) (some false) sn).step = cfg t st 11 q hd o' fs wt (some false) sn := by
  have h6 : (((1 : Nat) : Int) - 1 < ((1 : Nat) : Int)) := by omega
  simp only [cfg, Sre.M.step, Option.isSome_none, Bool.false_eq_true, if_false, Sre.M.resume, gf, Sre.M.word, Nat.reduceAdd, cd_13, h6, if_true, Sre.M.putBack, Sre.M.say]
  rfl

theorem runFor_succ {m : Sre.M} {k : Nat} (h : m.outcome = none) : Sre.M.runFor (k + 1) m = Sre.M.runFor k m.step := by
  show (if m.outcome.isSome then m else Sre.M.runFor k m.step) = _
  rw [h]; rfl
theorem runFor_some {m : Sre.M} (h : m.outcome.isSome = true) : ∀ k, Sre.M.runFor k m = m
  | 0 => rfl
  | k + 1 => by
    show (if m.outcome.isSome then m else Sre.M.runFor k m.step) = _
    rw [h]; rfl
theorem runFor_add : ∀ (a b : Nat) (m : Sre.M), Sre.M.runFor (a + b) m = Sre.M.runFor b (Sre.M.runFor a m)
  | 0, b, m => by rw [Nat.zero_add]; rfl
  | a + 1, b, m => by
    cases h : m.outcome with
    | none => rw [show a + 1 + b = (a + b) + 1 by omega, runFor_succ h, runFor_succ h, runFor_add a b]
    | some o =>
      have h' : m.outcome.isSome = true := by rw [h]; rfl
      rw [runFor_some h', runFor_some h', runFor_some h']
/-- the machine comes to an end within B steps, and there P holds -/
def Ends (B : Nat) (m : Sre.M) (P : Sre.M → Prop) : Prop := ∃ k, k ≤ B ∧ (Sre.M.runFor k m).outcome.isSome = true ∧ P (Sre.M.runFor k m)
theorem Ends.step {B : Nat} {m m' : Sre.M} {P : Sre.M → Prop} (ho : m.outcome = none) (hs : m.step = m') (h : Ends B m' P) : Ends (B + 1) m P := by
  obtain ⟨k, hk, h1, h2⟩ := h
  subst hs
  exact ⟨k + 1, by omega, by rw [runFor_succ ho]; exact h1, by rw [runFor_succ ho]; exact h2⟩
theorem Ends.le {B B' : Nat} {m : Sre.M} {P : Sre.M → Prop} (h : Ends B m P) (hB : B ≤ B') : Ends B' m P := by
  obtain ⟨k, hk, h1, h2⟩ := h
  exact ⟨k, by omega, h1, h2⟩
theorem Ends.last {m : Sre.M} {P : Sre.M → Prop} (ho : m.outcome = none) (h : m.step.outcome.isSome = true) (hP : P m.step) : Ends 1 m P :=
  ⟨1, Nat.le_refl _, by rw [runFor_succ ho]; exact h, by rw [runFor_succ ho]; exact hP⟩
abbrev Fell (m : Sre.M) : Prop := m.outcome = some .failed
/-- from a place on nothing is found where no dot stands -/
theorem scan_from : ∀ (n : Nat) (s : Nat) (o : Bool) (sn : Sre.Seen), t.size - s = n → s ≤ t.size → (∀ q, s ≤ q → q < t.size → t.getD q 0 ≠ 46) →
    Ends (2 * n + 3) (cfg t s 9 s s o [nf s o] 1 none sn) Fell
  | 0, s, o, sn, hn, hs, hq => by
    have e : t.size ≤ s := by omega
    refine Ends.step rfl (step_litE e) (Ends.step rfl (step_last e) (Ends.last rfl ?_ ?_))
    · rw [step_end]; rfl
    · exact step_end
  | n + 1, s, o, sn, hn, hs, hq => by
    have e : s < t.size := by omega
    refine Ends.le (Ends.step rfl (step_litN e (hq s (Nat.le_refl _) e)) (Ends.step rfl (step_next e) (scan_from n (s + 1) false _ (by omega) (by omega) fun q h1 h2 => hq q (by omega) h2))) (by omega)
theorem scan_after {s pc : Nat} {o : Bool} (hs : s < t.size) (hq : ∀ q, s + 1 ≤ q → q < t.size → t.getD q 0 ≠ 46) :
    Ends (2 * t.size + 4) (cfg t st pc p hd om [nf s o] 1 (some false) sn) Fell :=
  Ends.le (Ends.step rfl (step_next hs) (scan_from _ (s + 1) false sn rfl (by omega) hq)) (by omega)
theorem give_down (hq : ∀ q, 2 ≤ q → q < t.size → t.getD q 0 ≠ 46) (hnl : ∀ q, q < t.size → t.getD q 0 ≠ 10) (h1 : 1 < t.size) : ∀ (n hd : Nat) (sn : Sre.Seen), 2 + (n + 1) < t.size →
    Ends (2 * t.size + 4 + 2 * (n + 1)) (cfg t 1 21 (2 + (n + 1)) hd false [gf (2 + (n + 1)) (n + 1) false, nf 1 false] 2 none sn) Fell
  | 0, hd, sn, hn => by
    obtain ⟨s1, e1⟩ := step_atN (t := t) (st := 1) (p := 3) (hd := hd) (om := false) (fs := [gf 3 1 false, nf 1 false]) (wt := 2) (sn := sn) hn (hnl _ hn)
    exact Ends.le (Ends.step rfl e1 (Ends.step rfl (step_giveN (fs := [nf 1 false]) (wt := 1)) (scan_after h1 fun q a b => hq q (by omega) b))) (by omega)
  | n + 1, hd, sn, hn => by
    obtain ⟨s1, e1⟩ := step_atN (t := t) (st := 1) (p := 2 + (n + 1 + 1)) (hd := hd) (om := false) (fs := [gf (2 + (n + 1 + 1)) (n + 1 + 1) false, nf 1 false]) (wt := 2) (sn := sn) hn (hnl _ hn)
    exact Ends.le (Ends.step rfl e1 (Ends.step rfl (step_give (q := 2 + (n + 1)) (fs := [nf 1 false]) (wt := 1) (by omega)) (give_down hq hnl h1 n _ s1 (by omega)))) (by omega)
/-- no figures' run to the end: nothing is found -/
theorem search_no (h1 : 1 < t.size) (hl : t.size < 4294967295) (h0 : t.getD 0 0 ≠ 46) (hd1 : t.getD 1 0 = 46) (hq : ∀ q, 2 ≤ q → q < t.size → t.getD q 0 ≠ 46) (hnl : ∀ q, q < t.size → t.getD q 0 ≠ 10)
    (hf : t.size = 2 ∨ figs t (t.size - 2) 2 < t.size - 2) : Ends (4 * t.size + 20) (cfg t 0 9 0 0 true [nf 0 true] 1 none sn) Fell := by
  refine Ends.le (Ends.step rfl (step_litN (by omega) h0) (Ends.step rfl (step_next (by omega)) (Ends.step rfl (step_lit h1 hd1) (B := 4 * t.size + 10) ?_))) (by omega)
  by_cases hz : figs t (t.size - 2) 2 = 0
  · obtain ⟨s1, e1⟩ := step_runN (t := t) (st := 1) (p := 2) (hd := 1) (om := false) (fs := [nf 1 false]) (wt := 1) (sn := ((sn.add 16).add 16)) hl hz
    exact Ends.le (Ends.step rfl e1 (scan_after h1 fun q a b => hq q (by omega) b)) (by omega)
  · have hp : 2 < t.size := by
      rcases hf with h | h
      · rw [h] at hz; exact absurd rfl hz
      · omega
    obtain ⟨s1, e1⟩ := step_run (t := t) (st := 1) (p := 2) (hd := 1) (om := false) (fs := [nf 1 false]) (wt := 1) (sn := ((sn.add 16).add 16)) hp (by omega) hl hz
    obtain ⟨n, hn⟩ : ∃ n, figs t (t.size - 2) 2 = n + 1 := ⟨_, (Nat.succ_pred_eq_of_ne_zero hz).symm⟩
    rw [hn] at e1
    have hlt : 2 + (n + 1) < t.size := by omega
    exact Ends.le (Ends.step rfl e1 (give_down hq hnl h1 n _ s1 hlt)) (by omega)
abbrev Found (m : Sre.M) : Prop := m.outcome = some .matched
theorem search_yes (h2 : 2 < t.size) (hl : t.size < 4294967295) (h0 : t.getD 0 0 ≠ 46) (hd1 : t.getD 1 0 = 46) (hf : figs t (t.size - 2) 2 = t.size - 2) :
    Ends (4 * t.size + 20) (cfg t 0 9 0 0 true [nf 0 true] 1 none sn) Found := by
  refine Ends.le (Ends.step rfl (step_litN (by omega) h0) (Ends.step rfl (step_next (by omega)) (Ends.step rfl (step_lit (by omega) hd1) (B := 4 * t.size + 10) ?_))) (by omega)
  obtain ⟨s1, e1⟩ := step_run (t := t) (st := 1) (p := 2) (hd := 1) (om := false) (fs := [nf 1 false]) (wt := 1) (sn := ((sn.add 16).add 16)) h2 (by omega) hl (by omega)
  have e : 2 + figs t (t.size - 2) 2 = t.size := by omega
  rw [e] at e1
  obtain ⟨s2, e2⟩ := step_at (t := t) (st := 1) (p := t.size) (hd := t.size) (om := false) (fs := [gf t.size (figs t (t.size - 2) 2) false, nf 1 false]) (wt := 2) (sn := s1) rfl
  obtain ⟨s3, e3⟩ := step_ok (t := t) (st := 1) (p := t.size) (hd := t.size) (om := false) (fs := [gf t.size (figs t (t.size - 2) 2) false, nf 1 false]) (wt := 2) (sn := s2)
  refine Ends.le (Ends.step rfl e1 (Ends.step rfl e2 (Ends.step rfl e3 (Ends.step rfl (step_giveY (fs := [nf 1 false]) (wt := 1)) (Ends.step rfl step_nextY (Ends.last rfl ?_ ?_)))))) (by omega)
  · rw [step_end]; rfl
  · exact step_end
theorem forSearch_gen (c : Array Nat) (hh : Sre.header c = (2, 9)) (hc2 : c.getD 2 0 = 1) (hfs : ∀ m : Sre.M, m.code = c → m.hasFirstSet = false) (h2 : 2 ≤ t.size) : Sre.forSearch c t 0 0 t.size false =
    { code := c, text := t, lim := t.size, start := 0, lastStart := t.size, pc := 9, pos := 0, handed := 0, marks := #[], frames := [nf 0 true], weight := 1, seen := ({} : Sre.Seen).add 14 } := by
  have hb : (decide (0 > t.size) || decide (t.size - 0 < 2)) = false := by simp; omega
  have hl : (if (decide ((2 : Nat) > 1) && !((9 : Nat) != 0 && c.getD 2 0 &&& 5 != 0)) = true then max 0 (t.size - (2 - 1)) else t.size) = t.size := by
    rw [hc2]; rfl
  unfold Sre.forSearch
  rw [hh]
  refine Eq.trans (if_neg (by show ¬ ((decide (0 > t.size) || decide (t.size - 0 < 2)) = true); rw [hb]; exact Bool.false_ne_true)) ?_
  unfold Sre.M.attemptFrom
  rw [hfs _ rfl]
  refine Eq.trans (b := ({ code := c, text := t, lim := t.size, start := 0, lastStart := (if (decide ((2 : Nat) > 1) && !((9 : Nat) != 0 && c.getD 2 0 &&& 5 != 0)) = true then max 0 (t.size - (2 - 1)) else t.size), pc := (Sre.header c).2, pos := 0, handed := 0, marks := #[], frames := [{ wait := .nextStart, pc := (Sre.header c).2, pos := 0, outermost := true }], weight := 1, seen := if (Sre.header c).2 == 0 then {} else ({} : Sre.Seen).add 14 } : Sre.M)) rfl ?_
  rw [hl, hh]
  rfl
theorem forSearch_cfg (h2 : 2 ≤ t.size) : Sre.forSearch cd t 0 0 t.size false = cfg t 0 9 0 0 true [nf 0 true] 1 none (({} : Sre.Seen).add 14) :=
  forSearch_gen cd (by decide +kernel) (by decide +kernel) hasFirst h2
end Mine
end
section
open PySem PySem.W PyProof.Rows PySem.Calls
namespace Mine
section
variable {prog : Program} {w : World} {A : Around} {E : Value → Shared → Prop} {s : Shared}
theorem drive_eq (turns : Nat) (m : Sre.M) : Builtin.Re.reDrive (turns + 1) m =
    (if (m.runFor Builtin.Re.reTurnSteps).outcome.isSome then pure (m.runFor Builtin.Re.reTurnSteps) else (rule "sre.turn" >>= fun _ => Builtin.Re.reDrive turns (m.runFor Builtin.Re.reTurnSteps))) := rfl
theorem drive_end {Q : Sre.M → Shared → Prop} {P : Sre.M → Prop} (hQ : ∀ m', P m' → m'.outcome.isSome = true → Q m' s) (turns : Nat) : ∀ (m : Sre.M) (B : Nat), Ends B m P → B ≤ 4 * turns → 0 < turns →
    wpAny (model prog w) A (Builtin.Re.reDrive turns m) Q E s := by
  induction turns with
  | zero => intro m B _ _ h; exact absurd h (Nat.lt_irrefl 0)
  | succ turns ih =>
    intro m B h hB _
    obtain ⟨k, hk, ho, hP⟩ := h
    rw [drive_eq]
    have h4e : Builtin.Re.reTurnSteps = 4 := rfl
    generalize Builtin.Re.reTurnSteps = F at h4e ⊢
    cases h4 : (Sre.M.runFor F m).outcome.isSome with
    | true =>
      have e : Sre.M.runFor k m = Sre.M.runFor F m := by
        rcases Nat.le_total k F with h | h
        · obtain ⟨d, hd⟩ := Nat.exists_eq_add_of_le h
          rw [hd, runFor_add, runFor_some ho]
        · obtain ⟨d, rfl⟩ := Nat.exists_eq_add_of_le h
          rw [runFor_add, runFor_some h4]
      rw [if_pos rfl]
      exact wpAny_pure (hQ _ (e ▸ hP) h4)
    | false =>
      rw [if_neg Bool.false_ne_true]
      have h5 : F < k := by
        rcases Nat.lt_or_ge F k with h | h
        · exact h
        · obtain ⟨d, hd⟩ := Nat.exists_eq_add_of_le h
          have : (Sre.M.runFor F m).outcome.isSome = true := by rw [hd, runFor_add, runFor_some ho]; exact ho
          rw [h4] at this; cases this
      refine wpAny_bind (wpAny_rule (ih _ (B - 4) ?_ (by omega) (by omega)))
      obtain ⟨d, rfl⟩ := Nat.exists_eq_add_of_le (Nat.le_of_lt h5)
      rw [runFor_add] at ho hP
      exact ⟨d, by omega, ho, hP⟩
theorem rules_pass {Q : PUnit → Shared → Prop} (c : Nat → Bool) (g : Nat → String) (l : List Nat) (h : Q ⟨⟩ s) :
    wpAny (model prog w) A (forIn l PUnit.unit fun i (_ : PUnit) => do
      if c i = true then rule (g i); pure (ForInStep.yield PUnit.unit) else pure (ForInStep.yield PUnit.unit)) Q E s := by
  refine wpAny_forIn_list _ (fun _ _ s' => s' = s) Q (fun i rest b s' e => ?_) (fun b s' e => e ▸ h) l _ rfl
  subst e
  split
  · exact wpAny_bind (wpAny_rule (wpAny_pure rfl))
  · exact wpAny_pure rfl
theorem runToEnd {b : Bool} {m : Sre.M} {B : Nat} {Q : Option Sre.M → Shared → Prop} (h : Ends B m fun m' => m'.outcome = some (if b then .matched else .failed)) (hB : B ≤ 4 * 2 ^ 64)
    (hQ : ∀ m', Q (if b then some m' else none) s) : wpAny (model prog w) A (Builtin.Re.reRunToEnd m) Q E s := by
  have hp : 0 < (2 : Nat) ^ 64 := Nat.two_pow_pos 64
  unfold Builtin.Re.reRunToEnd
  generalize (2 : Nat) ^ 64 = N at hB hp
  refine wpAny_bind (drive_end (P := fun m' => m'.outcome = some (if b then .matched else .failed)) (fun m' hm _ => ?_) N m B h hB hp)
  refine wpAny_bind ?_
  refine rules_pass (fun i => m'.seen.has i) (fun i => Sre.names.getD i "") (List.range Sre.names.size) ?_
  rw [hm]
  cases b
  · exact wpAny_pure (hQ m')
  · exact wpAny_pure (hQ m')

/-- what a search that finds hands back -/
def IsMatch (h : Heap) (a : Addr) : Prop := ∃ o, h.get? a = some o ∧ o.cls = .type "re.Match"
theorem named_eq (v : Value) : Builtin.Re.reNamed "re.Pattern.search" "search" ["string", "pos", "endpos"] 1 [v] [] = pure [some v, none, none] := by rfl
theorem call_search {P : Addr} {r : Flt.PatRec} {x : Str} {tk : Tok} {b : Bool} {B : Nat} {Q : Value → Shared → Prop} (hp : Flt.IsPattern s.heap P r) (hg : r.groups = 0) (hk : r.kind = 0) (hc : r.code = cdL)
    (h2 : 2 ≤ x.cps.size) (hl : x.cps.size < 1000)
    (hend : Ends B (cfg x.cps 0 9 0 0 true [nf 0 true] 1 none (({} : Sre.Seen).add 14)) fun m' => m'.outcome = some (if b then .matched else .failed)) (hB : B ≤ 4 * 2 ^ 64)
    (hN : b = false → Q .none s) (hM : b = true → ∀ a h', IsMatch h' a → Ext s.heap h' → Q (.ref a) { s with heap := h' }) :
    wpAny (model prog w) A (call (.builtin "re.Pattern.search") [.ref P, .str x tk]) Q E s := by
  obtain ⟨fs, T, ws, n, h1, h5, hgr, hki, hT, hws⟩ := hp
  refine wpAny_call_entry slot_pat_search ⟨_, h1, rfl⟩ entry_pat_search ?_ (args_pat_search _ _)
  have hcd : (ws.map Builtin.Re.reRawOf).map (·.toNat) = cd := by
    apply Array.toList_inj.mp
    rw [hws, hc]; rfl
  unfold Builtin.«re.Pattern.search»
  have ht : wpAny (model prog w) A.in1 (Builtin.Re.reTarget "re.Pattern.search" "search" ⟨[.ref P, .str x tk], []⟩)
      (fun t s' => s' = s ∧ t = { pattern := .ref P, string := .str x tk, code := cd, text := x.cps, kind := 0, groups := 0, pos := 0, lim := x.cps.size }) E s := by
    unfold Builtin.Re.reTarget
    show wpAny _ _ (Builtin.Re.reNamed "re.Pattern.search" "search" ["string", "pos", "endpos"] 1 [.str x tk] [] >>= _) _ _ s
    refine wpAny_bind (wpAny_of_eq (a := [some (.str x tk), none, none]) (named_eq _) ?_)
    refine wpAny_bind (wpAny_pure ?_)
    refine wpAny_bind (wpAny_pure ?_)
    refine wpAny_bind (wpAny_fieldsOf h1 rfl ?_)
    refine wpAny_bind (wpAny_of_eq (a := (x.cps, 0)) rfl ?_)
    dsimp only
    rw [hki, hk, hgr, hg]
    show wpAny _ _ (Builtin.Re.reNoCollectionInside (.str x tk) 0 >>= _) _ _ s
    refine wpAny_bind (wpAny_of_eq (a := ()) rfl ?_)
    refine wpAny_bind (m := Builtin.Re.reRawItems (fs.getD 5 Value.none)) ?_
    rw [h5]
    unfold Builtin.Re.reRawItems
    refine wpAny_bind (wpAny_seqItems hT rfl ?_)
    refine wpAny_pure (wpAny_pure ⟨rfl, ?_⟩)
    show Builtin.Re.ReTarget.mk _ _ _ _ _ _ _ _ = _
    rw [show ((some ws).getD #[]).map Builtin.Re.reRawOf = ws.map Builtin.Re.reRawOf from rfl, hcd]
    have e1 : min ((2 : Int) ^ 63 - 1).toNat x.cps.size = x.cps.size := by
      have : ((2 : Int) ^ 63 - 1).toNat = 9223372036854775807 := by decide
      rw [this]; omega
    rw [e1]
    simp
  refine wpAny_bind (wpAny_mono ht (fun t s' h => ?_) fun _ _ e => e)
  obtain ⟨rfl, rfl⟩ := h
  dsimp only
  unfold Builtin.Re.reAnswer
  rw [forSearch_cfg h2]
  refine wpAny_bind (runToEnd hend hB fun m' => ?_)
  cases b with
  | false => exact wpAny_pure ⟨_, rfl, hN rfl⟩
  | true =>
    refine wpAny_bind ?_
    unfold Builtin.Re.reNewMatch
    show wpAny _ _ (newTuple [rawInt m'.start, rawInt m'.handed] >>= fun t => newFields "re.Match" [.str x tk, .ref P, rawInt ((0 : Nat) : Int), rawInt (x.cps.size : Int), rawInt m'.lastindex, t]) _ _ _
    refine wpAny_bind (wpAny_newObj_type ?_ (by size_fits))
    refine wpAny_newObj_type ?_ (by size_fits)
    refine wpAny_pure ⟨_, rfl, hM rfl _ _ ⟨_, Heap.get?_push_size _ rfl, rfl⟩ fun b o e => Heap.get?_push_of_some _ (Heap.get?_push_of_some _ e)⟩
end
end Mine
end
section
open PySem PySem.W PyProof.Rows PySem.Calls
namespace Mine
abbrev PR : Program := PySem.Challenge.rw_wb0008_01.row.toRowW.prog
noncomputable abbrev KK (w : World) : Frag := hd.heap_39 w.params


/-- the ground: the text's own objects, the globals, the built-ins -/
structure Gr (w : World) (h : Heap) : Prop where
  kin : (KK w).In h
  glob : ∃ mg, h.Ns mainGlobals mg
  blt : ∃ mb, h.Ns builtinsNs mb ∧ ∀ x : Str, x ≠ "__name__" → mb x = bootBuiltins x
  nolim : h.NoLimit
theorem Gr.keeps {w : World} {h h' : Heap} (G : Gr w h) (k : Ext h h') : Gr w h' :=
  ⟨fun a o e => k a o (G.kin a o e), let ⟨mg, x⟩ := G.glob; ⟨mg, x.keeps k⟩, let ⟨mb, x, y⟩ := G.blt; ⟨mb, x.keeps k, y⟩, G.nolim.keeps k⟩

/-- room: no exception at hand, d frames and u units of C are left -/
structure Rm (A : Around) (d u : Nat) : Prop where
  hd : A.handled = none
  dep : A.depth + d < recursionLimit
  un : A.units + u < cLine
theorem Rm.deeper {A : Around} {d u : Nat} {env : Env} (R : Rm A (d + 1) (u + 3)) : Rm (A.deeper env) d u :=
  ⟨R.hd, by have := R.dep; show A.depth + 1 + d < _; omega, by have := R.un; show A.units + 3 + u < _; omega⟩
theorem Rm.in1 {A : Around} {d u : Nat} (R : Rm A d (u + 1)) : Rm A.in1 d u :=
  ⟨R.hd, R.dep, by have := R.un; show A.units + 1 + u < _; omega⟩
theorem Rm.le {A : Around} {d u d' u' : Nat} (R : Rm A d u) (h1 : d' ≤ d) (h2 : u' ≤ u) : Rm A d' u' :=
  ⟨R.hd, by have := R.dep; omega, by have := R.un; omega⟩

section
variable {M : Model} {A : Around} {E : Value → Shared → Prop} {s : Shared} {w : World} {env : Env} {x : Str} {pos : Pos} {v : Value} {Q : Value → Shared → Prop}
/-- a global name of the text's -/
theorem ldG (G : Gr w s.heap) (e : nsIn (KK w) mainGlobals x = some (some v)) (h : Q v s)
    (hg : env.globals = mainGlobals := by rfl) (hk : env.scope.kind = .function := by rfl) (hx : env.kindOf x = some .globalImplicit := by rfl) (hd : (x == ("__debug__" : Str)) = false := by decide) :
    wpAny M A (eval (.Name x pos) env) Q E s := by
  obtain ⟨mg, hmg⟩ := G.glob
  exact Name_function_global hk hx (loadGlobal_global (env := env) (hg ▸ hmg) (mg_of G.kin hmg e) h) hd
/-- a built-in name -/
theorem ldB (G : Gr w s.heap) (e : nsIn (KK w) mainGlobals x = some none) (hv : bootBuiltins x = some v) (hn : x ≠ "__name__") (h : Q v s)
    (hg : env.globals = mainGlobals := by rfl) (hb : env.builtins = builtinsNs := by rfl) (hk : env.scope.kind = .function := by rfl) (hx : env.kindOf x = some .globalImplicit := by rfl) (hd : (x == ("__debug__" : Str)) = false := by decide) :
    wpAny M A (eval (.Name x pos) env) Q E s := by
  obtain ⟨mg, hmg⟩ := G.glob
  obtain ⟨mb, hmb, hbb⟩ := G.blt
  exact Name_function_global hk hx (loadGlobal_builtin (env := env) (hg ▸ hmg) (mg_none_of G.kin hmg e) (hb ▸ hmb) ((hbb x hn).trans hv) h) hd
theorem ldL {m : Str → Option Value} (hn : s.heap.Ns env.locals m) (hv : m x = some v) (h : Q v s)
    (hk : env.scope.kind = .function := by rfl) (hx : env.kindOf x = some .local := by rfl) (hd : (x == ("__debug__" : Str)) = false := by decide) :
    wpAny M A (eval (.Name x pos) env) Q E s := wpAny_Name (wpAny_loadName_local hk hx hn hv h) hd
end
theorem Constant_bool {M : Model} {A : Around} {E : Value → Shared → Prop} {s : Shared} {env : Env} {b : Bool} {k : Nat} {pos : Pos} {Q : Value → Shared → Prop} (h : Q (.bool b) s) : wpAny M A (eval (.Constant (.bool b) k pos) env) Q E s := fun _ _ _ => h
/-- the pattern of the text -/
theorem pat_at {w : World} {h : Heap} (X : (KK w).In h) : ∃ r, Flt.IsPattern h 43 r ∧ r.groups = 0 ∧ r.kind = 0 ∧ r.code = cdL := by
  have h1 := X 43 _ rfl
  have h2 := X 42 _ rfl
  exact ⟨⟨"IPV4_RE", cdL, 0, 0⟩, ⟨_, 42, _, _, h1, rfl, rfl, rfl, h2, by decide +kernel⟩, rfl, rfl, rfl⟩


theorem figs_all {t : Array Nat} : ∀ (n p : Nat), (∀ j, j < n → Sre.isDigit (t.getD (p + j) 0) = true) → figs t n p = n
  | 0, _, _ => rfl
  | n + 1, p, h => by
    unfold figs
    have h0 := h 0 (Nat.succ_pos n)
    rw [Nat.add_zero] at h0
    rw [h0, if_pos rfl, figs_all n (p + 1) fun j hj => by have := h (j + 1) (by omega); rw [show p + 1 + j = p + (j + 1) by omega]; exact this]
theorem figs_lt {t : Array Nat} : ∀ (n p : Nat), (∃ j, j < n ∧ Sre.isDigit (t.getD (p + j) 0) = false) → figs t n p < n
  | 0, _, ⟨_, h, _⟩ => absurd h (Nat.not_lt_zero _)
  | n + 1, p, ⟨j, hj, h⟩ => by
    unfold figs
    cases h0 : Sre.isDigit (t.getD p 0) with
    | false => rw [if_neg Bool.false_ne_true]; omega
    | true =>
      rw [if_pos rfl]
      cases j with
      | zero => rw [Nat.add_zero] at h; rw [h] at h0; cases h0
      | succ j => have := figs_lt n (p + 1) ⟨j, by omega, by rw [show p + 1 + j = p + (j + 1) by omega]; exact h⟩; omega

/-- what is_HDN says of w, a dot and the signs t -/
def hdn (t : List Nat) : Bool := !(t.isEmpty) && !(t.all Sre.isDigit)
/-- w, a dot, the signs t -/
def hostS (t : List Nat) : Str := ⟨(119 :: 46 :: t).toArray⟩
theorem host_ends (t : List Nat) (ht : ∀ c ∈ t, c ≠ 46 ∧ c ≠ 10) (hl : t.length < 900) :
    Ends (4 * (hostS t).cps.size + 20) (cfg (hostS t).cps 0 9 0 0 true [nf 0 true] 1 none (({} : Sre.Seen).add 14)) fun m' => m'.outcome = some (if (!(t.isEmpty) && t.all Sre.isDigit) then .matched else .failed) := by
  have hsz : (hostS t).cps.size = t.length + 2 := rfl
  have hg : ∀ j, (hostS t).cps.getD (2 + j) 0 = t.getD j 0 := fun j => by
    rw [Array.getD_eq_getD_getElem?, List.getD_eq_getElem?_getD]
    show ((119 :: 46 :: t).toArray[2 + j]?).getD 0 = _
    rw [List.getElem?_toArray, show 2 + j = j + 1 + 1 by omega, List.getElem?_cons_succ, List.getElem?_cons_succ]
  have hm : ∀ j, j < t.length → t.getD j 0 ∈ t := fun j hj => by
    rw [List.getD_eq_getElem?_getD, List.getElem?_eq_getElem hj]; exact List.getElem_mem hj
  have h0 : (hostS t).cps.getD 0 0 ≠ 46 := by show (119 : Nat) ≠ 46; decide
  have h1 : (hostS t).cps.getD 1 0 = 46 := rfl
  cases hb : (!(t.isEmpty) && t.all Sre.isDigit) with
  | true =>
    obtain ⟨e1, e2⟩ := Bool.and_eq_true_iff.mp hb
    have hne : 0 < t.length := by cases t with | nil => cases e1 | cons a r => exact Nat.succ_pos _
    refine search_yes (by omega) (by omega) h0 h1 ?_
    rw [hsz, Nat.add_sub_cancel]
    exact figs_all _ _ fun j hj => by rw [hg]; exact List.all_eq_true.mp e2 _ (hm j hj)
  | false =>
    refine search_no (by omega) (by omega) h0 h1 (fun q h2 hq => ?_) (fun q hq => ?_) ?_
    · obtain ⟨j, rfl⟩ := Nat.exists_eq_add_of_le h2
      rw [hg]; exact (ht _ (hm j (by omega))).1
    · rcases Nat.lt_or_ge q 2 with h | h
      · rcases q with _ | _ | q
        · show (119 : Nat) ≠ 10; decide
        · show (46 : Nat) ≠ 10; decide
        · omega
      · obtain ⟨j, rfl⟩ := Nat.exists_eq_add_of_le h
        rw [hg]; exact (ht _ (hm j (by omega))).2
    · rcases Nat.eq_zero_or_pos t.length with h | h
      · left; omega
      · right
        rw [hsz, Nat.add_sub_cancel]
        have e1 : t.isEmpty = false := by cases t with | nil => cases h | cons a r => rfl
        rw [e1] at hb
        have e2 : t.all Sre.isDigit = false := by simpa using hb
        obtain ⟨c, hc, hd⟩ := List.all_eq_false.mp e2
        obtain ⟨j, hj, rfl⟩ := List.mem_iff_getElem.mp hc
        refine figs_lt _ _ ⟨j, hj, ?_⟩
        rw [hg, List.getD_eq_getElem?_getD, List.getElem?_eq_getElem hj]
        simpa using hd

theorem pat_plain : PlainAttrs "re.Pattern" := ⟨⟨_, pat_getattribute, by decide +kernel⟩, pat_getattr_none⟩
section
variable {w : World} {A : Around} {E : Value → Shared → Prop} {s : Shared} {Q : Value → Shared → Prop}
theorem truthy_match {a : Addr} {Q : Bool → Shared → Prop} (hm : IsMatch s.heap a) (h : Q true s) : wpAny (model PR w) A (truthy (.ref a)) Q E s := by
  obtain ⟨o, ho, hc⟩ := hm
  have hT : s.TypeIs (.ref a) "re.Match" := ⟨o, ho, hc⟩
  unfold truthy
  refine wpAny_bind (wpAny_callSpecial?_none hT match_bool_none ?_)
  refine wpAny_bind (wpAny_specialOf hT match_len_none ?_)
  exact wpAny_pure h

theorem call_hdn (G : Gr w s.heap) (R : Rm A 3 20) {t : List Nat} {tk : Tok} (ht : ∀ c ∈ t, c ≠ 46 ∧ c ≠ 10) (hl : t.length < 900)
    (hQ : ∀ h' tk', Ext s.heap h' → Q (.bool (hdn t)) { s with heap := h', toks := tk' }) : wpAny (model PR w) A (call (.ref 50) [.str (hostS t) tk]) Q E s := by
  refine wpAny_call (call_plain_ret (binds := [(Str.ofString "text", .str (hostS t) tk)]) (by have := R.dep; omega) (G.kin 50 _ rfl) rfl G.nolim (codeRec_of G.kin (by rfl)) rfl (locs rfl) (fun h₁ F => ?_))
  have G₁ := G.keeps F.keep
  have hsz : (hostS t).cps.size = t.length + 2 := rfl
  refine wpAny_execs_cons (wpAny_If (isTrue_plain (wpAny_Call_method (by rfl) (by rfl) (by rfl) pat_plain slot_pat_search type_pat_search (ldG G₁ rfl ⟨⟨_, G₁.kin 43 _ rfl, rfl⟩, fun a e => by cases e; exact ⟨_, G₁.kin 43 _ rfl, rfl⟩, callWith_method1 (spliced_cons (ldL F.ns rfl (spliced_nil ?_))) ⟩) )))
  obtain ⟨r, hp, hg, hk, hc⟩ := pat_at G₁.kin
  refine call_search hp hg hk hc (by omega) (by omega) (host_ends t ht hl) (by omega) (fun hb => ?_) (fun hb a h' hm k => ?_)
  · refine truthy_none ?_
    simp only [Bool.false_eq_true, if_false]
    refine wpAny_execs_nil ?_
    dsimp only
    have hlen : (hostS t).length = t.length + 2 := hsz
    have hne : (hostS t == Str.ofString "") = false := by
      rw [beq_eq_false_iff_ne]
      intro e
      have := congrArg Str.length e
      rw [hlen] at this
      exact absurd this (by show t.length + 2 ≠ 0; omega)
    refine wpAny_execs_cons (wpAny_If (wpAny_isTrue_Compare1 (ldL F.ns rfl (Constant_str (PyProof.Rows.eq_str (wpAny_truthy_bool ?_))))))
    rw [hne]
    simp only [Bool.false_eq_true, if_false]
    refine wpAny_execs_nil ?_
    dsimp only
    have h0 : (Txt.item (hostS t) 0 == Str.ofString ".") = false := by
      rw [item_meets (n := 119) (Int.le_refl 0) rfl]; rfl
    have hfit : fitsSsize (-1) = true := by decide
    refine wpAny_execs_cons (wpAny_If (isTrue_or (wpAny_isTrue_Compare1 (Subscript_ (ldL F.ns rfl (wpAny_Constant_int (item_str (by decide) (by omega) (by omega) fun _ => Constant_str (PyProof.Rows.eq_str (wpAny_truthy_bool ?_)))))))))
    rw [h0]
    simp only [Bool.false_eq_true, if_false]
    refine isTrue_or (wpAny_isTrue_Compare1 (Subscript_ (ldL F.ns rfl (UnaryOp_ (wpAny_Constant_int (PyProof.Rows.neg_int (item_str hfit (by omega) (by omega) fun _ => Constant_str (PyProof.Rows.eq_str (wpAny_truthy_bool ?_)))))))))
    have hlast : (Txt.item (hostS t) (-1) == Str.ofString ".") = t.isEmpty := by
      have e1 := item_closes_neg (x := hostS t) (i := -1) (j := (t.length : Int) + 1) (by omega) (by omega) (by rw [hlen]; omega)
      rw [eq_of_beq e1]
      cases t with
      | nil => rfl
      | cons c r =>
        have hg : (hostS (c :: r)).cps.getD ((((c :: r).length : Nat) : Int) + 1).toNat 0 = (c :: r).getLast (List.cons_ne_nil c r) := by
          rw [show ((((c :: r).length : Nat) : Int) + 1).toNat = r.length + 2 by simp; omega, Array.getD_eq_getD_getElem?]
          show ((119 :: 46 :: c :: r).toArray[r.length + 2]?).getD 0 = _
          rw [List.getElem?_toArray, List.getElem?_cons_succ, List.getElem?_cons_succ, List.getLast_eq_getElem, List.getElem?_eq_getElem (by simp)]
          rfl
        rw [hg]
        have hx := (ht _ (List.getLast_mem (List.cons_ne_nil c r))).1
        show ((Str.mk #[_]) == Str.mk #[46]) = false
        rw [beq_eq_false_iff_ne]
        intro e
        exact hx (by injection e with e; simpa using e)
    rw [hlast]
    cases he : t.isEmpty with
    | true =>
      simp only [if_true]
      refine wpAny_execs_cons (wpAny_Return_some (Constant_bool ?_))
      have hv : hdn t = false := by unfold hdn; rw [he]; rfl
      exact hv ▸ hQ _ _ F.keep
    | false =>
      simp only [Bool.false_eq_true, if_false]
      refine isTrue_or_nil ?_
      simp only [Bool.false_eq_true, if_false]
      refine wpAny_execs_nil ?_
      dsimp only
      refine wpAny_execs_cons (wpAny_Return_some (Constant_bool ?_))
      have hv : hdn t = true := by
        rw [he] at hb
        unfold hdn; rw [he]; simpa using hb
      exact hv ▸ hQ _ _ F.keep
  · refine truthy_match hm ?_
    simp only [if_true]
    refine wpAny_execs_cons (wpAny_Return_some (Constant_bool ?_))
    have hv : hdn t = false := by
      obtain ⟨e1, e2⟩ := Bool.and_eq_true_iff.mp hb
      unfold hdn; rw [e2]; simp
    exact hv ▸ hQ _ _ (Ext.trans F.keep k)
end
end Mine
end
section
open PySem PySem.W PyProof.Rows PySem.Calls
namespace Mine

section
variable {prog : Program} {w : World} {A : Around} {E : Value → Shared → Prop} {R : Result → Shared → Prop} {s : Shared}
abbrev tests (ifs : List Expr) (env : Env) : Sem Bool :=
  forIn ifs true fun c r => if r = true then do let ok ← isTrue c env (eval c env); pure (ForInStep.yield ok) else pure (ForInStep.yield r)
theorem compLoop_any {tgt elt iter : Expr} {ifs : List Expr} {scope : Scope} {pos : Pos} {it acc : Value} {env : Env} (I : Nat → Shared → Prop)
    (turn : ∀ n s E', I n s → wpAny (model prog w) A (pyNext it) (fun r s₁ => match r with
      | none => R (.ok .next) s₁
      | some v => wpAny (model prog w) A (letOwnedTupleGo tgt it v) (fun _ s₂ => wpAny (model prog w) A (assign tgt env v) (fun _ s₃ =>
          wpAny (model prog w) A (tests ifs env) (fun ok s₄ =>
            if ok = true then wpAny (model prog w) A (eval elt env) (fun x s₅ => wpAny (model prog w) A (call (.builtin "list.append") [acc, x]) (fun _ s₆ => ∃ m, m < n ∧ I m s₆) E' s₅) E' s₄
            else ∃ m, m < n ∧ I m s₄) E' s₃) E' s₂) E' s₁) E' s)
    (n : Nat) (h : I n s) : codeAny (model prog w) A (.compLoop (.ListComp elt [⟨tgt, iter, ifs, 0⟩] scope pos) 0 it acc env) R s := by
  refine codeAny_loop rfl I (fun n s hI => ?_) n h
  show wpAny _ A ((compTurn (.ListComp elt [⟨tgt, iter, ifs, 0⟩] scope pos) 0 it acc env).onRaise (fun x => do noteFrame x env; theTreesLotGoes x)) _ _ s
  refine wpAny_noted ?_
  rw [compTurn_list]
  refine wpAny_bind (wpAny_standAt (wpAny_bind (wpAny_mono (turn n s _ hI) (fun r s₁ h₁ => ?_) fun _ _ h' => h')))
  cases r with
  | none => exact wpAny_pure h₁
  | some v =>
    refine wpAny_bind (wpAny_mono h₁ (fun _ s₂ h₂ => wpAny_bind (wpAny_mono h₂ (fun _ s₃ h₃ => wpAny_bind (wpAny_mono h₃ (fun ok s₄ h₄ => ?_) fun _ _ h' => h')) fun _ _ h' => h')) fun _ _ h' => h')
    cases ok with
    | false => exact wpAny_pure ⟨rfl, h₄⟩
    | true =>
      exact wpAny_bind (wpAny_bind (wpAny_mono h₄ (fun x s₅ h₅ => wpAny_bind (wpAny_mono h₅ (fun _ s₆ h₆ => wpAny_pure (wpAny_pure ⟨rfl, h₆⟩)) fun _ _ h' => h')) fun _ _ h' => h'))

/-- how a comprehension's target takes what comes -/
structure Tgt (prog : Program) (w : World) (A : Around) (tgt : Expr) (cenv : Env) (own : List Addr) (P : Nat → Value → Heap → Prop) (Ow : Heap → Prop) (Bd : Nat → Heap → Prop) : Prop where
  live : ∀ h, Ow h → ∀ b ∈ own, ∃ o, h.get? b = some o
  ow : ∀ h h', Ow h → (∀ b ∈ own, ∀ o, h.get? b = some o → h'.get? b = some o) → Ow h'
  bdOw : ∀ i h, Bd i h → Ow h
  bdExt : ∀ i h h', Bd i h → Ext h h' → Bd i h'
  asg : ∀ i v (s : Shared) (Q : Unit → Shared → Prop) (E : Value → Shared → Prop), P i v s.heap → Ow s.heap →
    (∀ h' tk, Bd i h' → (∀ b o, b ∉ own → s.heap.get? b = some o → h'.get? b = some o) → Q () { s with heap := h', toks := tk }) → wpAny (model prog w) A (assign tgt cenv v) Q E s

theorem comp_core {tgt elt iter : Expr} {ifs : List Expr} {scope : Scope} {pos : Pos} {cenv : Env} {I D : Addr} {fp wr own : List Addr} {n : Nat} {P Md : Nat → Value → Heap → Prop} {St : Nat → Heap → Prop} {h₀ : Heap}
    {Ow : Heap → Prop} {Bd : Nat → Heap → Prop} (W : KTurns prog w A tgt I fp wr n P Md St) (hlive : ∀ i h, St i h → ∀ b ∈ wr, ∃ o, h.get? b = some o) (hsz : n ≤ sizeLine)
    (T : Tgt prog w A tgt cenv own P Ow Bd) (p : Nat → Bool) (G : Heap → Nat → Value → Prop)
    (hDo : D ∉ own) (hDf : D ∉ fp) (hof : ∀ b ∈ own, b ∉ fp) (ho₀ : ∀ b ∈ own, h₀.get? b = none) (hD₀ : h₀.get? D = none) (hw₀ : ∀ b ∈ wr, h₀.get? b = none)
    (ht : ∀ i (s : Shared) (E' : Value → Shared → Prop), i < n → Bd i s.heap → Ext h₀ s.heap → wpAny (model prog w) A (tests ifs cenv) (fun ok s' => ok = p i ∧ Keeps s s') E' s)
    (he : ∀ i (s : Shared) (E' : Value → Shared → Prop), i < n → p i = true → Bd i s.heap → Ext h₀ s.heap →
      wpAny (model prog w) A (eval elt cenv) (fun y s' => Keeps s s' ∧ ∀ h', Ext h₀ h' → NewIn s.heap s'.heap h' → G h' i y) E' s)
    (hst : St 0 s.heap) (how : Ow s.heap) (hacc : s.heap.PlainList D #[]) (k₀ : Ext h₀ s.heap)
    (hR : ∀ h' tk ys, Ow h' → h'.PlainList D ys → (∀ h'', Ext h₀ h'' → NewIn s.heap h' h'' → Paired (G h'') ((List.range n).filter p) ys.toList) → Ext h₀ h' → (∀ b o, b ∉ own → b ∉ wr → b ≠ D → s.heap.get? b = some o → h'.get? b = some o) →
      R (.ok .next) { s with heap := h', toks := tk }) :
    codeAny (model prog w) A (.compLoop (.ListComp elt [⟨tgt, iter, ifs, 0⟩] scope pos) 0 (.ref I) (.ref D) cenv) R s := by
  have oo : ∀ b o, h₀.get? b = some o → b ∉ own ∧ b ∉ wr ∧ b ≠ D := fun b o e =>
    ⟨fun hb => (by rw [ho₀ b hb] at e; cases e), fun hb => (by rw [hw₀ b hb] at e; cases e), fun hb => (by rw [hb, hD₀] at e; cases e)⟩
  have how' : ∀ b ∈ own, b ∉ wr := fun b hb hw => hof b hb (W.sub b hw)
  have hDw : D ∉ wr := fun hw => hDf (W.sub D hw)
  have h0o : ∀ b, s.heap.get? b = none → b ∉ own ∧ b ∉ wr ∧ b ≠ D := fun b e =>
    ⟨fun hb => (by obtain ⟨o, e'⟩ := T.live _ how b hb; rw [e] at e'; cases e'), fun hb => (by obtain ⟨o, e'⟩ := hlive _ _ hst b hb; rw [e] at e'; cases e'), fun hb => (by obtain ⟨n', e'⟩ := hacc; subst hb; rw [e] at e'; cases e')⟩
  refine compLoop_any
    (fun k s' => ∃ h' tk ys i, s' = { s with heap := h', toks := tk } ∧ St i h' ∧ h'.PlainList D ys ∧ Ow h' ∧ i ≤ n ∧ k = n + 1 - i ∧ Ext h₀ h' ∧ ys.size ≤ i ∧ (∀ b o, b ∉ own → b ∉ wr → b ≠ D → s.heap.get? b = some o → h'.get? b = some o) ∧
      (∀ h'', Ext h₀ h'' → NewIn s.heap h' h'' → Paired (G h'') ((List.range i).filter p) ys.toList)) ?_ (n + 1)
    ⟨s.heap, s.toks, #[], 0, rfl, hst, hacc, how, Nat.zero_le _, rfl, k₀, Nat.le_refl _, fun _ _ _ _ _ e => e, fun _ _ _ => by simpa using Paired.nil⟩
  rintro k s' E' ⟨H, tk, ys, i, rfl, hst', hacc', how₁, hi, rfl, hk, hys, hkk, hG⟩
  by_cases hlt : i < n
  · refine W.item i _ _ _ hlt hst' fun v h₁ tk₁ hMd hk₁ => ?_
    refine W.go i v _ _ _ hMd fun h₂ hP hst₂ hk₂ => ?_
    have up₂ : ∀ b o, b ∉ wr → H.get? b = some o → h₂.get? b = some o := fun b o hb e => hk₂ b o hb (hk₁ b o hb e)
    have how₂ : Ow h₂ := T.ow _ _ how₁ fun b hb o e => up₂ b o (how' b hb) e
    refine T.asg i v _ _ _ hP how₂ fun h₃ tk₃ hB hk₃ => ?_
    have hst₃ : St (i + 1) h₃ := W.frame _ _ _ hst₂ fun b hb o e => hk₃ b o (fun hbo => hof b hbo hb) e
    have k₃ : Ext h₀ h₃ := fun b o e => hk₃ b o (oo b o e).1 (up₂ b o (oo b o e).2.1 (hk b o e))
    have hacc₃ : h₃.PlainList D ys := hacc'.at fun o e => hk₃ D o hDo (up₂ D o hDw e)
    refine wpAny_mono (ht i _ E' hlt hB k₃) (fun ok s₄ h₄' => ?_) fun _ _ e => e
    obtain ⟨rfl, h₄, tk₄, rfl, hk₄⟩ := h₄'
    have hB₄ : Bd i h₄ := T.bdExt _ _ _ hB hk₄
    have hst₄ : St (i + 1) h₄ := W.frame _ _ _ hst₃ fun b _ o e => hk₄ b o e
    have k₄ : Ext h₀ h₄ := Ext.trans k₃ hk₄
    have hacc₄ : h₄.PlainList D ys := hacc₃.at fun o e => hk₄ D o e
    have up₄ : ∀ b o, b ∉ own → b ∉ wr → H.get? b = some o → h₄.get? b = some o := fun b o hb hw e => hk₄ b o (hk₃ b o hb (up₂ b o hw e))
    have hrs : (List.range (i + 1)).filter p = (List.range i).filter p ++ (if p i then [i] else []) := by
      rw [List.range_succ, List.filter_append]; cases hp : p i <;> simp [hp]
    cases hp : p i with
    | false =>
      simp only [Bool.false_eq_true, if_false]
      refine ⟨n + 1 - (i + 1), by omega, h₄, tk₄, ys, i + 1, rfl, hst₄, hacc₄, T.bdOw _ _ hB₄, hlt, rfl, k₄, by omega, fun b o n1 n2 n3 e => up₄ b o n1 n2 (hkk b o n1 n2 n3 e), fun h'' e0 e1 => ?_⟩
      rw [hrs, hp]
      simpa using hG h'' e0 fun b o e2 e => e1 b o e2 (up₄ b o (h0o b e2).1 (h0o b e2).2.1 e)
    | true =>
      simp only [if_true]
      refine wpAny_mono (he i _ E' hlt hp hB₄ k₄) (fun y s₅ h₅' => ?_) fun _ _ e => e
      obtain ⟨⟨h₅, tk₅, rfl, hk₅⟩, hy⟩ := h₅'
      have hst₅ : St (i + 1) h₅ := W.frame _ _ _ hst₄ fun b _ o e => hk₅ b o e
      refine wpAny_list_append_plain (hsz := by omega) (hacc₄.at fun o e => hk₅ D o e) fun h₆ hl₆ hs₆ => ?_
      refine ⟨n + 1 - (i + 1), by omega, h₆, tk₅, ys.push y, i + 1, rfl, W.frame _ _ _ hst₅ fun b hb o e => hs₆.extBut b o (fun q => hDf (q ▸ hb)) e, hl₆,
        T.ow _ _ (T.bdOw _ _ (T.bdExt _ _ _ hB₄ hk₅)) (fun b hb o e => hs₆.extBut b o (fun q => hDo (q ▸ hb)) e), hlt, rfl, fun b o e => hs₆.extBut b o (oo b o e).2.2 (hk₅ b o (k₄ b o e)), by simp; omega,
        fun b o n1 n2 n3 e => hs₆.extBut b o n3 (hk₅ b o (up₄ b o n1 n2 (hkk b o n1 n2 n3 e))), fun h'' e0 e1 => ?_⟩
      rw [hrs, hp, Array.toList_push]
      refine Paired.snoc (hG h'' e0 fun b o e2 e => e1 b o e2 (hs₆.extBut b o (h0o b e2).2.2 (hk₅ b o (up₄ b o (h0o b e2).1 (h0o b e2).2.1 e)))) (hy h'' e0 fun b o e4 e5 => ?_)
      have n1 : b ∉ own := fun hb => by obtain ⟨o', e'⟩ := T.live _ (T.bdOw _ _ hB₄) b hb; rw [e4] at e'; cases e'
      have n2 : b ∉ wr := fun hb => by obtain ⟨o', e'⟩ := hlive _ _ hst₄ b hb; rw [e4] at e'; cases e'
      have n3 : b ≠ D := fun hb => by obtain ⟨n', e'⟩ := hacc₄; subst hb; rw [e4] at e'; cases e'
      have n4 : s.heap.get? b = none := by
        cases q : s.heap.get? b with
        | none => rfl
        | some o' => have := up₄ b o' n1 n2 (hkk b o' n1 n2 n3 q); rw [e4] at this; cases this
      exact e1 b o n4 (hs₆.extBut b o n3 e5)
  · have hin : i = n := by omega
    subst hin
    refine W.done _ _ _ hst' fun h₁ tk₁ hk₁ => ?_
    exact hR h₁ tk₁ ys (T.ow _ _ how₁ fun b hb o e => hk₁ b o (how' b hb) e) (hacc'.at fun o e => hk₁ D o hDw e) (fun h'' e0 e1 => hG h'' e0 fun b o e2 e => e1 b o e2 (hk₁ b o (h0o b e2).2.1 e))
      (fun b o e => hk₁ b o (oo b o e).2.1 (hk b o e)) fun b o n1 n2 n3 e => hk₁ b o n2 (hkk b o n1 n2 n3 e)

theorem newEnv_comp {scope : Scope} {cl : List (Str × Addr)} {env : Env} {Q : Env → Shared → Prop}
    (h : Q { scope, locals := s.heap.objs.size, globals := env.globals, cells := cellsFrom (s.heap.objs.size + 1) scope.names cl, qual := env.qual, func := none, code := env.code, frame := env.frame, builtins := env.builtins }
      { s with heap := pushCells (s.heap.push { cls := .type "dict", data := .dict #[] }) scope.names }) :
    wpAny (model prog w) A (newFunctionEnv scope env.globals cl [] env.qual none .none (some env)) Q E s := by
  simp only [newFunctionEnv, Option.isSome_some, if_true]
  refine wpAny_bind (wpAny_alloc ?_)
  refine wpAny_bind (wpAny_layCells _ (fun name kind cells => by cases hkc : kind == NameKind.cell <;> simp [hkc]) _ _ _ _ ?_)
  rw [show ({ s with heap := s.heap.push { cls := .type "dict", data := .dict #[] } } : Shared).heap.objs.size = s.heap.objs.size + 1 from Heap.size_push ..]
  rw [List.forIn_nil]
  exact wpAny_bind (wpAny_pure (wpAny_pure h))

theorem block_gen {tgt elt iter : Expr} {ifs : List Expr} {scope : Scope} {cl : List (Str × Addr)} {pos : Pos} {env : Env} {s₂ : Shared} {I : Addr} {fp wr : List Addr} {n : Nat} {P Md : Nat → Value → Heap → Prop} {St : Nat → Heap → Prop} {h₀ : Heap}
    (W : KTurns prog w A tgt I fp wr n P Md St) (hself : ∀ i (s : Shared) (Q : Value → Shared → Prop) (E : Value → Shared → Prop), St i s.heap → Q (.ref I) s → wpAny (model prog w) A (pyIter (.ref I)) Q E s)
    (hlive : ∀ i h, St i h → ∀ b ∈ wr, ∃ o, h.get? b = some o) (hsz : n ≤ sizeLine) (p : Nat → Bool) (G : Heap → Nat → Value → Prop)
    (cells : Addr → List (Str × Addr)) (own : Addr → List Addr) (Ow : Addr → Heap → Prop)
    (hcl : ∀ C, cellsFrom (C + 1) scope.names cl = cells C) (hC : ∀ C, C ∈ own C) (hge : ∀ C, ∀ b ∈ own C, C ≤ b)
    (hOw : ∀ h : Heap, Ow h.objs.size (pushCells (h.push { cls := .type "dict", data := .dict #[] }) scope.names)) (hNs : ∀ C h, Ow C h → ∃ m, h.Ns C m)
    (hb : ∀ C, ∃ Bd, Tgt prog w A tgt (compEnvC scope (cells C) C env) (own C) P (Ow C) Bd ∧
      (∀ i (s : Shared) (E' : Value → Shared → Prop), i < n → Bd i s.heap → Ext h₀ s.heap → wpAny (model prog w) A (tests ifs (compEnvC scope (cells C) C env)) (fun ok s' => ok = p i ∧ Keeps s s') E' s) ∧
      (∀ i (s : Shared) (E' : Value → Shared → Prop), i < n → p i = true → Bd i s.heap → Ext h₀ s.heap →
        wpAny (model prog w) A (eval elt (compEnvC scope (cells C) C env)) (fun y s' => Keeps s s' ∧ ∀ h', Ext h₀ h' → NewIn s.heap s'.heap h' → G h' i y) E' s))
    (hst : St 0 s₂.heap) (hfp : ∀ b ∈ fp, b < s₂.heap.objs.size) (hw₀ : ∀ b ∈ wr, h₀.get? b = none) (k₀ : Ext h₀ s₂.heap) {RR : Value → Addr → Result → Shared → Prop}
    (hRR : ∀ D C h' tk ys, h₀.get? D = none → h₀.get? C = none → D ≠ C → (∃ m, h'.Ns C m) → h'.PlainList D ys → (∀ h'', Ext h₀ h'' → (∀ b o, b ≠ C → b ≠ D → s₂.heap.get? b = none → h'.get? b = some o → h''.get? b = some o) → Paired (G h'') ((List.range n).filter p) ys.toList) →
      Ext h₀ h' → (∀ b o, b ∉ wr → s₂.heap.get? b = some o → h'.get? b = some o) → s₂.heap.get? D = none → s₂.heap.get? C = none → RR (.ref D) C (.ok .next) { s₂ with heap := h', toks := tk }) :
    wpAny (model prog w) A (newList []) (fun acc s₃ => wpAny (model prog w) A (newFunctionEnv scope env.globals cl [] env.qual none .none (some env)) (fun cenv s₄ =>
      codeAny (model prog w) A (.compStart (.ListComp elt [⟨tgt, iter, ifs, 0⟩] scope pos) 0 (.ref I) acc { cenv with scope := relabel scope env }) (RR acc cenv.locals) s₄) E s₃) E s₂ := by
  refine wpAny_newObj_type (newEnv_comp ?_)
  dsimp only
  generalize hH2 : s₂.heap.push { cls := .type "list", dict := none, data := .seq ([] : List Value).toArray } = H2
  have hCs : H2.objs.size = s₂.heap.objs.size + 1 := by rw [← hH2, Heap.size_push]
  generalize hH3 : pushCells (H2.push { cls := .type "dict", data := .dict #[] }) scope.names = H3
  have old2 : ∀ b o, H2.get? b = some o → H3.get? b = some o := fun b o e => by rw [← hH3]; exact pushCells_keeps _ _ _ _ (Heap.get?_push_of_some _ e)
  have old : Ext s₂.heap H3 := fun b o e => old2 b o (by rw [← hH2]; exact Heap.get?_push_of_some _ e)
  have hacc : H3.PlainList s₂.heap.objs.size #[] := ⟨_, old2 _ _ (by rw [← hH2]; exact Heap.get?_push_size _ rfl)⟩
  have fresh₀ : ∀ a, s₂.heap.objs.size ≤ a → h₀.get? a = none := fun a ha => by
    cases e : h₀.get? a with
    | none => rfl
    | some o' => exact absurd (Heap.lt_size (k₀ a o' e)) (Nat.not_lt.mpr ha)
  obtain ⟨Bd, T, ht, he⟩ := hb H2.objs.size
  have hst₁ : St 0 H3 := W.frame _ _ _ hst fun b _ o e => old b o e
  have hgo : ∀ b ∈ own H2.objs.size, s₂.heap.objs.size < b := fun b hb => Nat.lt_of_lt_of_le (by rw [hCs]; exact Nat.lt_succ_self _) (hge _ b hb)
  have how : Ow H2.objs.size H3 := hH3 ▸ hOw H2
  have loop : codeAny (model prog w) A (.compLoop (.ListComp elt [⟨tgt, iter, ifs, 0⟩] scope pos) 0 (.ref I) (.ref s₂.heap.objs.size) (compEnvC scope (cells H2.objs.size) H2.objs.size env)) (RR (.ref s₂.heap.objs.size) H2.objs.size) { s₂ with heap := H3 } := by
    refine comp_core W hlive hsz T p G (fun h => Nat.lt_irrefl _ (hgo _ h)) (fun h => Nat.lt_irrefl _ (hfp _ h)) (fun b hb hf => Nat.lt_irrefl _ (Nat.lt_trans (hgo b hb) (hfp b hf)))
      (fun b hb => fresh₀ b (Nat.le_of_lt (hgo b hb))) (fresh₀ _ (Nat.le_refl _)) hw₀ ht he hst₁ how hacc (Ext.trans k₀ old) fun h' tk ys ow' hl' cl' k' kk' => ?_
    have fresh₂ : ∀ a, s₂.heap.objs.size ≤ a → s₂.heap.get? a = none := fun a ha => by
      cases e : s₂.heap.get? a with
      | none => rfl
      | some o' => exact absurd (Heap.lt_size e) (Nat.not_lt.mpr ha)
    refine hRR _ _ h' tk ys (fresh₀ _ (Nat.le_refl _)) (fresh₀ _ (by rw [hCs]; exact Nat.le_succ _)) (by rw [hCs]; exact Nat.ne_of_lt (Nat.lt_succ_self _)) (hNs _ _ ow') hl'
      (fun h'' e0 e1 => cl' h'' e0 fun b o e2 e => e1 b o (fun q => by obtain ⟨o', e'⟩ := T.live _ how b (q ▸ hC _); rw [show H3.get? b = none from e2] at e'; cases e') (fun q => by obtain ⟨n', e'⟩ := hacc; subst q; rw [show H3.get? _ = none from e2] at e'; cases e') (by cases q : s₂.heap.get? b with | none => rfl | some o' => have := old b o' q; rw [show H3.get? b = none from e2] at this; cases this) e) k'
      (fun b o hb e => kk' b o (fun q => Nat.lt_irrefl _ (Nat.lt_trans (hgo b q) (Heap.lt_size e))) hb (fun q => Nat.lt_irrefl _ (q ▸ Heap.lt_size e)) (old b o e)) (fresh₂ _ (Nat.le_refl _)) (fresh₂ _ (by rw [hCs]; exact Nat.le_succ _))
  rw [hcl]
  exact codeAny_compStart_list loop (hself 0 _ _ _ hst₁ loop)

/-- what the iterator of a value gives: n things, the i-th as P i says -/
def Itr (prog : Program) (w : World) (A : Around) (tgt : Expr) (n : Nat) (P : Nat → Value → Heap → Prop) (ft : List Addr) (s₁ : Shared) (it : Value) (s₂ : Shared) : Prop :=
  Keeps s₁ s₂ ∧ ∃ I fp wr Md St, it = .ref I ∧ KTurns prog w A tgt I fp wr n P Md St ∧
    (∀ i (s : Shared) (Q : Value → Shared → Prop) (E : Value → Shared → Prop), St i s.heap → Q (.ref I) s → wpAny (model prog w) A (pyIter (.ref I)) Q E s) ∧
    (∀ i h, St i h → ∀ b ∈ wr, ∃ o, h.get? b = some o) ∧ St 0 s₂.heap ∧ (∀ b ∈ fp, b < s₂.heap.objs.size) ∧ (∀ b ∈ wr, s₁.heap.get? b = none) ∧ (∀ b ∈ fp, s₁.heap.get? b = none ∨ b ∈ ft)
/-- what a comprehension's turn does, C being its own names -/
def Bod (prog : Program) (w : World) (A : Around) (h₀ : Heap) (tgt elt : Expr) (ifs : List Expr) (scope : Scope) (env : Env) (cells : Addr → List (Str × Addr)) (own : Addr → List Addr) (Ow : Addr → Heap → Prop) (n : Nat) (p : Nat → Bool)
    (P : Nat → Value → Heap → Prop) (G : Heap → Nat → Value → Prop) : Prop :=
  ∀ C, ∃ Bd, Tgt prog w A tgt (compEnvC scope (cells C) C env) (own C) P (Ow C) Bd ∧
      (∀ i (s : Shared) (E' : Value → Shared → Prop), i < n → Bd i s.heap → Ext h₀ s.heap → wpAny (model prog w) A (tests ifs (compEnvC scope (cells C) C env)) (fun ok s' => ok = p i ∧ Keeps s s') E' s) ∧
      (∀ i (s : Shared) (E' : Value → Shared → Prop), i < n → p i = true → Bd i s.heap → Ext h₀ s.heap →
        wpAny (model prog w) A (eval elt (compEnvC scope (cells C) C env)) (fun y s' => Keeps s s' ∧ ∀ h', Ext h₀ h' → NewIn s.heap s'.heap h' → G h' i y) E' s)
/-- how the names of a comprehension lie -/
structure Lay (scope : Scope) (cl : List (Str × Addr)) (cells : Addr → List (Str × Addr)) (own : Addr → List Addr) (Ow : Addr → Heap → Prop) : Prop where
  hcl : ∀ C, cellsFrom (C + 1) scope.names cl = cells C
  hC : ∀ C, C ∈ own C
  hge : ∀ C, ∀ b ∈ own C, C ≤ b
  hOw : ∀ h : Heap, Ow h.objs.size (pushCells (h.push { cls := .type "dict", data := .dict #[] }) scope.names)
  hNs : ∀ C h, Ow C h → ∃ m, h.Ns C m

theorem lc_eval {tgt elt iter : Expr} {ifs : List Expr} {scope : Scope} {cl : List (Str × Addr)} {pos : Pos} {env : Env} {n : Nat} {P : Nat → Value → Heap → Prop} {h₀ : Heap} {cells : Addr → List (Str × Addr)} {own : Addr → List Addr} {Ow : Addr → Heap → Prop}
    {Q : Value → Shared → Prop} (p : Nat → Bool) (G : Heap → Nat → Value → Prop) (Y : Lay scope cl cells own Ow) (hclos : closureFor scope env = pure cl) (hkind : scope.kind = .function)
    (hnames : ∀ y ∈ scope.names, y.2 = .local → scope.names.lookup y.1 = some .local) (hsz : n ≤ sizeLine)
    (h : wpAny (model prog w) A (eval iter env) (fun xv s₁ => wpAny (model prog w) A (pyIter xv) (fun it s₂ => ∃ (s₁ : Shared) (ft : List Addr), Ext h₀ s₁.heap ∧ Itr prog w A tgt n P ft s₁ it s₂ ∧ Bod prog w A h₀ tgt elt ifs scope env cells own Ow n p P G ∧
      (∀ D h' tk ys, s₁.heap.get? D = none → h'.PlainList D ys → (∀ h'', Ext h₀ h'' → NewIn s₁.heap h' h'' → Paired (G h'') ((List.range n).filter p) ys.toList) → Ext s₁.heap h' → Q (.ref D) { s₁ with heap := h', toks := tk })) E s₁) E s)
    (hs : ∀ x, foldedSetIterable iter env x = pure x := by intro _; rfl) :
    wpAny (model prog w) A (eval (.ListComp elt [⟨tgt, iter, ifs, 0⟩] scope pos) env) Q E s := by
  rw [eval_ListComp]
  refine wpAny_comprehension_free (use := none) rfl hs hclos hkind hnames (wpAny_mono h (fun xv s₁ h₁ => wpAny_mono h₁ (fun it s₂ h₂ => ?_) fun _ _ e => e) fun _ _ e => e)
  obtain ⟨s₁, ft, k₀, ⟨⟨H₂, tk₂, rfl, k₁₂⟩, I, fp, wr, Md, St, rfl, W, hself, hlive, hst, hfp, hw₁, _⟩, hB, hQ⟩ := h₂
  refine block_gen (RR := fun acc C => compPost (model prog w) A E none Q acc C) W hself hlive hsz p G cells own Ow Y.hcl Y.hC Y.hge Y.hOw Y.hNs hB hst hfp
    (fun b hb => by cases q : h₀.get? b with | none => rfl | some o => have := k₀ b o q; rw [hw₁ b hb] at this; cases this) (Ext.trans k₀ k₁₂) ?_
  intro D C h' tk ys hD₀ hC₀ hDC hn hl hG k' kk hD hC
  obtain ⟨m', hn⟩ := hn
  refine ⟨m', hn, fun h'' hs'' => hQ D h'' tk ys ?_ (hl.extBut hs''.extBut hDC) (fun h3 e0 e1 => hG h3 e0 fun b o b1 b2 b3 b4 => e1 b o ?_ (hs''.extBut b o b1 b4)) fun b o e => hs''.extBut b o ?_ (kk b o ?_ (k₁₂ b o e))⟩
  · cases q : s₁.heap.get? D with
    | none => rfl
    | some o => have := k₁₂ D o q; rw [show H₂.get? D = none from hD] at this; cases this
  · cases q : s₁.heap.get? b with
    | none => rfl
    | some o => have := k₁₂ b o q; rw [show H₂.get? b = none from b3] at this; cases this
  · rintro rfl
    have := k₁₂ b o e
    rw [show H₂.get? b = none from hC] at this; cases this
  · intro hb
    rw [hw₁ b hb] at e; cases e

theorem lc_assign {tgt elt iter : Expr} {ifs : List Expr} {scope : Scope} {cl : List (Str × Addr)} {pos py spos : Pos} {y : Str} {env : Env} {n : Nat} {P : Nat → Value → Heap → Prop} {h₀ : Heap} {cells : Addr → List (Str × Addr)} {own : Addr → List Addr} {Ow : Addr → Heap → Prop}
    {Q : Flow → Shared → Prop} (p : Nat → Bool) (G : Heap → Nat → Value → Prop) (Y : Lay scope cl cells own Ow)
    (hsw : swapsWith (.ListComp elt [⟨tgt, iter, ifs, 0⟩] scope pos) (some (.Name y py)) spos.line env = pure true) (hclos : closureFor scope env = pure cl) (hkind : scope.kind = .function)
    (hnames : ∀ y ∈ scope.names, y.2 = .local → scope.names.lookup y.1 = some .local) (hy : env.kindOf y = some .local) (hp : (env.scope.kind == .class || (env.scope.kind == .module && env.locals != env.globals)) = false) (hsz : n ≤ sizeLine)
    (h : wpAny (model prog w) A (eval iter env) (fun xv s₁ => wpAny (model prog w) A (pyIter xv) (fun it s₂ => ∃ (s₁ : Shared) (ft : List Addr) (m : Str → Option Value), Ext h₀ s₁.heap ∧ s₁.heap.Ns env.locals m ∧ Itr prog w A tgt n P ft s₁ it s₂ ∧ Bod prog w A h₀ tgt elt ifs scope env cells own Ow n p P G ∧
      (∀ D h' tk ys, s₁.heap.get? D = none → h'.PlainList D ys → (∀ h'', Ext h₀ h'' → NewIn s₁.heap h' h'' → Paired (G h'') ((List.range n).filter p) ys.toList) → h'.Ns env.locals (fun z => if z = y then some (.ref D) else m z) →
        (∀ b o, b ≠ env.locals → s₁.heap.get? b = some o → h'.get? b = some o) → Q .next { s₁ with heap := h', toks := tk })) E s₁) E s)
    (hs : ∀ x, foldedSetIterable iter env x = pure x := by intro _; rfl) :
    wpAny (model prog w) A (exec (.Assign [.Name y py] (.ListComp elt [⟨tgt, iter, ifs, 0⟩] scope pos) spos) env) Q E s := by
  rw [exec_Assign_Name_used _ _ _ _ hsw]
  refine wpAny_bind (wpAny_standAt (wpAny_bind ?_))
  show wpAny _ A (do let _ ← comprehension (.ListComp elt [⟨tgt, iter, ifs, 0⟩] scope pos) scope env _ (newList []) false (eval iter env) (some (assign (.Name y py) env))) _ _ s
  refine wpAny_bind (wpAny_mono (wpAny_comprehension_free (use := some (assign (.Name y py) env)) (Q := fun _ s' => Q .next s') rfl hs hclos hkind hnames
    (wpAny_mono h (fun xv s₁ h₁ => wpAny_mono h₁ (fun it s₂ h₂ => ?_) fun _ _ e => e) fun _ _ e => e)) (fun _ s' hq => wpAny_pure (wpAny_pure hq)) fun _ _ e => e)
  obtain ⟨s₁, ft, m, k₀, hns, ⟨⟨H₂, tk₂, rfl, k₁₂⟩, I, fp, wr, Md, St, rfl, W, hself, hlive, hst, hfp, hw₁, _⟩, hB, hQ⟩ := h₂
  refine block_gen (RR := fun acc C => compPost (model prog w) A E (some (assign (.Name y py) env)) (fun _ s' => Q .next s') acc C) W hself hlive hsz p G cells own Ow Y.hcl Y.hC Y.hge Y.hOw Y.hNs hB hst hfp
    (fun b hb => by cases q : h₀.get? b with | none => rfl | some o => have := k₀ b o q; rw [hw₁ b hb] at this; cases this) (Ext.trans k₀ k₁₂) ?_
  intro D C h' tk ys hD₀ hC₀ hDC hn hl hG k' kk hD hC
  obtain ⟨m', hn⟩ := hn
  have n1 : ∀ b, H₂.get? b = none → s₁.heap.get? b = none := fun b e => by
    cases q : s₁.heap.get? b with
    | none => rfl
    | some o => have := k₁₂ b o q; rw [e] at this; cases this
  have hD₁ := n1 D hD
  have hC₁ := n1 C hC
  obtain ⟨oL, es, ep, hL, r⟩ := hns
  have hLC : env.locals ≠ C := by rintro rfl; rw [hC₁] at hL; cases hL
  have hLD : env.locals ≠ D := by rintro rfl; rw [hD₁] at hL; cases hL
  have kk1 : Ext s₁.heap h' := fun b o e => kk b o (fun hb => by rw [hw₁ b hb] at e; cases e) (k₁₂ b o e)
  have hns' : h'.Ns env.locals m := ⟨oL, es, ep, kk1 _ _ hL, r⟩
  show wpAny _ A (assign (.Name y py) env (.ref D)) _ _ _
  refine wpAny_assign_Name (wpAny_storeName_local hy hns' (fun h₂ hn₂ hs₂ => ?_) hp)
  refine ⟨m', hn.sameBut hs₂ (Ne.symm hLC), fun h₃ hs₃ => ?_⟩
  refine hQ D h₃ _ ys hD₁ ((hl.extBut hs₂.extBut (Ne.symm hLD)).extBut hs₃.extBut hDC) (fun h4 e0 e1 => hG h4 e0 fun b o b1 b2 b3 b4 => e1 b o (n1 b b3) (hs₃.extBut b o b1 (hs₂.extBut b o ?_ b4))) (hn₂.sameBut hs₃ hLC)
    fun b o b1 e => hs₃.extBut b o ?_ (hs₂.extBut b o b1 (kk1 b o e))
  · rintro rfl
    have := n1 _ b3; rw [this] at hL; cases hL
  · rintro rfl
    rw [hC₁] at e; cases e
end
end Mine
end
section
open PySem PySem.W PyProof.Rows PySem.Calls
namespace Mine
section
variable {prog : Program} {w : World} {A : Around} {E : Value → Shared → Prop} {s s₀ : Shared}
theorem Keeps.refl : Keeps s s := ⟨s.heap, s.toks, rfl, fun _ _ e => e⟩
theorem Keeps.trans {a b c : Shared} (x : Keeps a b) (y : Keeps b c) : Keeps a c := by
  obtain ⟨h, t, rfl, k⟩ := x
  obtain ⟨h', t', rfl, k'⟩ := y
  exact ⟨h', t', rfl, fun p o e => k' p o (k p o e)⟩
theorem Keeps.ext {a b : Shared} (x : Keeps a b) : Ext a.heap b.heap := by obtain ⟨h, t, rfl, k⟩ := x; exact k
theorem fresh_of {h : Heap} {a : Addr} (ha : h.objs.size ≤ a) : h.get? a = none := by
  cases e : h.get? a with
  | none => rfl
  | some o' => exact absurd (Heap.lt_size e) (Nat.not_lt.mpr ha)
theorem none_of {h h' : Heap} {a : Addr} (k : Ext h h') (e : h'.get? a = none) : h.get? a = none := by
  cases q : h.get? a with
  | none => rfl
  | some o' => rw [k a o' q] at e; cases e
theorem size_le_of {h h' : Heap} {a : Addr} (k : Ext h h') (ha : h'.objs.size ≤ a) : h.get? a = none := none_of k (fresh_of ha)

abbrev PL (items : Array Value) : Nat → Value → Heap → Prop := fun i v _ => items[i]? = some v
theorem itr_list {ax : Addr} {items : Array Value} {x : Str} {px : Pos} {Q : Value → Shared → Prop} (hh : A.handled = none) (hl : s.heap.IsList ax items) (k : Keeps s₀ s)
    (h : ∀ it s₂, Itr prog w A (.Name x px) items.size (PL items) [ax] s₀ it s₂ → Q it s₂) : wpAny (model prog w) A (pyIter (.ref ax)) Q E s := by
  have hlt : ax < s.heap.objs.size := by obtain ⟨_, e, _⟩ := hl; exact Heap.lt_size e
  refine wpAny_pyIter_list hl (h _ _ ⟨Keeps.trans k ⟨_, s.toks, rfl, fun b o e => Heap.get?_push_of_some _ e⟩, s.heap.objs.size, [s.heap.objs.size, ax], [s.heap.objs.size], _, _, rfl,
    KTurns.ofWalks (Walks.list hh s.heap.objs.size ax (Nat.ne_of_lt hlt) items) (fun i v s Q E hst hQ => wpAny_of_eq (a := ()) rfl hQ), fun i s Q E hst hQ => wpAny_pyIter_listiter hst.1 hQ, fun i h hst b hb => ?_,
    ⟨⟨_, Heap.get?_push_size _ rfl, rfl, rfl⟩, hl.push _⟩, fun b hb => ?_, fun b hb => ?_, fun b hb => ?_⟩)
  · rw [List.mem_singleton.mp hb]; obtain ⟨⟨o, e, _⟩, _⟩ := hst; exact ⟨o, e⟩
  · show b < (s.heap.push _).objs.size
    rw [Heap.size_push]
    rcases List.mem_cons.mp hb with rfl | hb
    · exact Nat.lt_succ_self _
    · rw [List.mem_singleton.mp hb]; exact Nat.lt_succ_of_lt hlt
  · rw [List.mem_singleton.mp hb]; exact size_le_of (Keeps.ext k) (Nat.le_refl _)
  · rcases List.mem_cons.mp hb with rfl | hb
    · exact .inl (size_le_of (Keeps.ext k) (Nat.le_refl _))
    · exact .inr hb

abbrev PR' (a : Int) : Nat → Value → Heap → Prop := fun i v _ => ∃ t, v = .int (a + (i : Int)) t
theorem itr_range {r : Addr} {a b : Int} {t u v : Tok} {n : Nat} {x : Str} {px : Pos} {Q : Value → Shared → Prop} (hh : A.handled = none) (hr : IsRange s.heap r a b 1 t u v) (hsm : Builtin.Range.small a b 1 = true) (hn : Builtin.Range.rangeSize a b 1 = ((n : Nat) : Int)) (k : Keeps s₀ s)
    (h : ∀ it s₂, Itr prog w A (.Name x px) n (PR' a) [] s₀ it s₂ → Q it s₂) : wpAny (model prog w) A (pyIter (.ref r)) Q E s := by
  refine wpAny_pyIter_range hr hsm (h _ _ ⟨Keeps.trans k ⟨_, s.toks, rfl, fun b o e => Heap.get?_push_of_some _ e⟩, s.heap.objs.size, [s.heap.objs.size], [s.heap.objs.size], _, _, rfl,
    KTurns.ofWalks (LCg.range_walks hh a n) (fun i v s Q E hst hQ => wpAny_of_eq (a := ()) rfl hQ), fun i s Q E hst hQ => wpAny_pyIter_rangeiter hst hQ, fun i h hst b hb => ?_,
    (by show IsRangeIter _ _ _ _ _; rw [hn]; simpa using Heap.get?_push_size _ rfl), fun b hb => ?_, fun b hb => ?_, fun b hb => ?_⟩)
  · rw [List.mem_singleton.mp hb]; exact ⟨_, hst⟩
  · rw [List.mem_singleton.mp hb]; show s.heap.objs.size < (s.heap.push _).objs.size; rw [Heap.size_push]; exact Nat.lt_succ_self _
  · rw [List.mem_singleton.mp hb]; exact size_le_of (Keeps.ext k) (Nat.le_refl _)
  · rw [List.mem_singleton.mp hb]; exact .inl (size_le_of (Keeps.ext k) (Nat.le_refl _))

/-- pairs out of a list of tuples, or of a zip -/
abbrev PP (vals : Nat → Value × Value → Prop) : Nat → Value → Heap → Prop := fun i v h => ∃ T a b, v = .ref T ∧ vals i (a, b) ∧ h.IsTuple T #[a, b]
theorem KTurns.mono {target : Expr} {I : Addr} {fp wr : List Addr} {n : Nat} {P P' Md : Nat → Value → Heap → Prop} {St : Nat → Heap → Prop} (W : KTurns prog w A target I fp wr n P Md St) (hP : ∀ i v h, P i v h → P' i v h) :
    KTurns prog w A target I fp wr n P' Md St where
  sub := W.sub
  frame := W.frame
  item := W.item
  go := fun i v s Q E hm hQ => W.go i v s Q E hm fun h' a b c => hQ h' (hP _ _ _ a) b c
  done := W.done
theorem itr_tuples {ax : Addr} {items : Array Value} {Ts : Nat → Addr} {vals : Nat → Value × Value} {elts : List Expr} {ek : Nat} {px : Pos} {Q : Value → Shared → Prop} (hh : A.handled = none) (hl : s.heap.IsList ax items)
    (hit : ∀ j, j < items.size → items[j]? = some (.ref (Ts j)) ∧ s.heap.IsTuple (Ts j) #[(vals j).1, (vals j).2]) (k : Keeps s₀ s)
    (h : ∀ it s₂, Itr prog w A (.Tuple elts ek px) items.size (PP fun i p => p = vals i) (ax :: (List.range items.size).map Ts) s₀ it s₂ → Q it s₂) : wpAny (model prog w) A (pyIter (.ref ax)) Q E s := by
  have hlt : ax < s.heap.objs.size := by obtain ⟨_, e, _⟩ := hl; exact Heap.lt_size e
  have hTlt : ∀ j, j < items.size → Ts j < s.heap.objs.size := fun j hj => by obtain ⟨_, e, _⟩ := (hit j hj).2; exact Heap.lt_size e
  refine wpAny_pyIter_list hl (h _ _ ⟨Keeps.trans k ⟨_, s.toks, rfl, fun b o e => Heap.get?_push_of_some _ e⟩, s.heap.objs.size, _, [s.heap.objs.size], _, _, rfl,
    KTurns.mono (KTurns.ofWalksU (WalksU.listOfTuples hh s.heap.objs.size ax (Nat.ne_of_lt hlt) items Ts (fun j => #[(vals j).1, (vals j).2]) (fun j hj => (hit j hj).1) fun j hj => Nat.ne_of_lt (hTlt j hj)))
      (fun i v h hp => by obtain ⟨T, vs, rfl, e, hT⟩ := hp; subst e; exact ⟨T, _, _, rfl, rfl, hT⟩),
    fun i s Q E hst hQ => wpAny_pyIter_listiter hst.1 hQ, fun i h hst b hb => ?_,
    ⟨⟨_, Heap.get?_push_size _ rfl, rfl, rfl⟩, hl.push _, fun j hj => (hit j hj).2.at fun o e => Heap.get?_push_of_some _ e⟩, fun b hb => ?_, fun b hb => ?_, fun b hb => ?_⟩)
  · rw [List.mem_singleton.mp hb]; obtain ⟨⟨o, e, _⟩, _⟩ := hst; exact ⟨o, e⟩
  · show b < (s.heap.push _).objs.size
    rw [Heap.size_push]
    rcases List.mem_cons.mp hb with rfl | hb
    · exact Nat.lt_succ_self _
    · rcases List.mem_cons.mp hb with rfl | hb
      · exact Nat.lt_succ_of_lt hlt
      · obtain ⟨j, hj, rfl⟩ := List.mem_map.mp hb
        exact Nat.lt_succ_of_lt (hTlt j (List.mem_range.mp hj))
  · rw [List.mem_singleton.mp hb]; exact size_le_of (Keeps.ext k) (Nat.le_refl _)
  · rcases List.mem_cons.mp hb with rfl | hb
    · exact .inl (size_le_of (Keeps.ext k) (Nat.le_refl _))
    · exact .inr hb
/-- zip of two lists, called and iterated -/
theorem itr_zip {l1 l2 : Addr} {xs ys : Array Value} {elts : List Expr} {ek : Nat} {px : Pos} {Q : Value → Shared → Prop} {E' : Value → Shared → Prop} (hh : A.handled = none) (hl1 : s.heap.IsList l1 xs) (hl2 : s.heap.IsList l2 ys) (k : Keeps s₀ s)
    (h : ∀ it s₂, Itr prog w A (.Tuple elts ek px) (min xs.size ys.size) (PP fun i p => xs[i]? = some p.1 ∧ ys[i]? = some p.2) [l1, l2] s₀ it s₂ → Q it s₂) :
    wpAny (model prog w) A (call (.type "zip") [.ref l1, .ref l2]) (fun xv s₁ => wpAny (model prog w) A (pyIter xv) Q E' s₁) E s := by
  have a1 : l1 < s.heap.objs.size := by obtain ⟨_, e, _⟩ := hl1; exact Heap.lt_size e
  have a2 : l2 < s.heap.objs.size := by obtain ⟨_, e, _⟩ := hl2; exact Heap.lt_size e
  refine call_zip_2 hl1 hl2 fun h' hz hTI hTO hi1 hi2 hsz hk => ?_
  refine wpAny_pyIter_zip hz (h _ _ ⟨Keeps.trans k ⟨_, s.toks, rfl, hk⟩, s.heap.objs.size + 4, [s.heap.objs.size + 4, s.heap.objs.size + 2, s.heap.objs.size + 3, s.heap.objs.size, s.heap.objs.size + 1, l1, l2],
    [s.heap.objs.size + 4, s.heap.objs.size + 3, s.heap.objs.size, s.heap.objs.size + 1], _, _, rfl,
    KTurns.mono (KTurns.ofWalksU (WalksT.zip2 hh _ _ _ _ _ _ _ (zipApart_new a1 a2) xs ys).toU) (fun i v h hp => by obtain ⟨T, vs, rfl, ⟨x, y, e1, e2, e3⟩, hT⟩ := hp; subst e3; exact ⟨T, x, y, rfl, ⟨e1, e2⟩, hT⟩),
    fun i s Q E hst hQ => wpAny_pyIter_zip hst.1 hQ, fun i h hst b hb => ?_,
    ⟨hz, hTI, ⟨_, _, hTO⟩, hi1, hi2, Heap.IsList.at hl1 (fun o e => hk _ o e), Heap.IsList.at hl2 (fun o e => hk _ o e)⟩, fun b hb => ?_, fun b hb => ?_, fun b hb => ?_⟩)
  · obtain ⟨z, _, ⟨_, _, t⟩, ⟨o1, e1, _⟩, ⟨o2, e2, _⟩, _⟩ := hst
    simp only [List.mem_cons, List.not_mem_nil, or_false] at hb
    rcases hb with rfl | rfl | rfl | rfl
    · exact ⟨_, z⟩
    · exact ⟨_, t⟩
    · exact ⟨_, e1⟩
    · exact ⟨_, e2⟩
  · show b < h'.objs.size
    rw [hsz]
    simp only [List.mem_cons, List.not_mem_nil, or_false] at hb
    have a1' : (l1 : Nat) < s.heap.objs.size := a1
    have a2' : (l2 : Nat) < s.heap.objs.size := a2
    rcases hb with rfl | rfl | rfl | rfl | rfl | rfl | rfl
    · exact Nat.lt_succ_self _
    · show s.heap.objs.size + 2 < s.heap.objs.size + 5; omega
    · show s.heap.objs.size + 3 < s.heap.objs.size + 5; omega
    · show s.heap.objs.size < s.heap.objs.size + 5; omega
    · show s.heap.objs.size + 1 < s.heap.objs.size + 5; omega
    · exact Nat.lt_of_lt_of_le a1 (Nat.le_add_right _ _)
    · exact Nat.lt_of_lt_of_le a2 (Nat.le_add_right _ _)
  · simp only [List.mem_cons, List.not_mem_nil, or_false] at hb
    refine size_le_of (Keeps.ext k) ?_
    rcases hb with rfl | rfl | rfl | rfl
    · exact Nat.le_add_right _ _
    · exact Nat.le_add_right _ _
    · exact Nat.le_refl _
    · exact Nat.le_add_right _ _
  · simp only [List.mem_cons, List.not_mem_nil, or_false] at hb
    rcases hb with rfl | rfl | rfl | rfl | rfl | rfl | rfl
    · exact .inl (size_le_of (Keeps.ext k) (Nat.le_add_right _ _))
    · exact .inl (size_le_of (Keeps.ext k) (Nat.le_add_right _ _))
    · exact .inl (size_le_of (Keeps.ext k) (Nat.le_add_right _ _))
    · exact .inl (size_le_of (Keeps.ext k) (Nat.le_refl _))
    · exact .inl (size_le_of (Keeps.ext k) (Nat.le_add_right _ _))
    · exact .inr (by simp)
    · exact .inr (by simp)

/-- the target is a name of the comprehension's own -/
theorem tgt_local {C : Addr} {cenv : Env} {x : Str} {px : Pos} {P : Nat → Value → Heap → Prop} (Pv : Nat → Value → Prop) (hP : ∀ i v h, P i v h → Pv i v) (hL : cenv.locals = C) (hx : cenv.kindOf x = some .local)
    (hp : (cenv.scope.kind == .class || (cenv.scope.kind == .module && cenv.locals != cenv.globals)) = false) :
    Tgt prog w A (.Name x px) cenv [C] P (fun h => ∃ m, h.Ns C m) (fun i h => ∃ v m, Pv i v ∧ h.Ns C m ∧ m x = some v) where
  live := fun h ⟨m, o, _, _, e, _⟩ b hb => by rw [List.mem_singleton.mp hb]; exact ⟨o, e⟩
  ow := fun h h' ⟨m, hn⟩ k => ⟨m, hn.at' fun o e => k C (List.mem_singleton.mpr rfl) o e⟩
  bdOw := fun i h ⟨v, m, _, hn, _⟩ => ⟨m, hn⟩
  bdExt := fun i h h' ⟨v, m, hp, hn, hv⟩ k => ⟨v, m, hp, hn.keeps k, hv⟩
  asg := fun i v s Q E hPv ⟨m, hn⟩ hQ => by
    subst hL
    refine wpAny_assign_Name (wpAny_storeName_local hx hn (fun h' hn' hs' => hQ h' _ ⟨v, _, hP _ _ _ hPv, hn', by simp⟩ fun b o hb e => hs'.extBut b o (fun q => hb (by rw [q]; exact List.mem_singleton.mpr rfl)) e) hp)
/-- the target is a cell of the comprehension's own -/
theorem tgt_cell {C : Addr} {cenv : Env} {x : Str} {px : Pos} {P : Nat → Value → Heap → Prop} (Pv : Nat → Value → Prop) (hP : ∀ i v h, P i v h → Pv i v) (hk : cenv.scope.kind = .function) (hx : cenv.kindOf x = some .cell) (hc : cenv.cells.lookup x = some (C + 1)) :
    Tgt prog w A (.Name x px) cenv [C, C + 1] P (fun h => (∃ m, h.Ns C m) ∧ ∃ ov, h.IsCell (C + 1) ov) (fun i h => ∃ v, Pv i v ∧ (∃ m, h.Ns C m) ∧ h.IsCell (C + 1) (some v)) where
  live := fun h ⟨⟨m, o, _, _, e, _⟩, ov, o', e', _⟩ b hb => by
    rcases List.mem_cons.mp hb with rfl | hb
    · exact ⟨o, e⟩
    · rw [List.mem_singleton.mp hb]; exact ⟨o', e'⟩
  ow := fun h h' ⟨⟨m, hn⟩, ov, o, e, hd⟩ k => ⟨⟨m, hn.at' fun o e => k C List.mem_cons_self o e⟩, ov, o, k (C + 1) (List.mem_cons_of_mem _ (List.mem_singleton.mpr rfl)) o e, hd⟩
  bdOw := fun i h ⟨v, _, hn, hc⟩ => ⟨hn, _, hc⟩
  bdExt := fun i h h' ⟨v, hp, ⟨m, hn⟩, hc⟩ k => ⟨v, hp, ⟨m, hn.keeps k⟩, hc.keeps k⟩
  asg := fun i v s Q E hPv ⟨⟨m, hn⟩, ov, hcl⟩ hQ => by
    refine wpAny_assign_Name (wpAny_storeName_cell hk hx hc hcl fun h' hv hs => hQ h' s.toks ⟨v, hP _ _ _ hPv, ⟨m, hn.sameBut hs (Nat.ne_of_lt (Nat.lt_succ_self _))⟩, hv⟩ fun b o hb e => hs.extBut b o (fun q => hb (by rw [q]; exact List.mem_cons_of_mem _ (List.mem_singleton.mpr rfl))) e)
/-- the target is a pair of names -/
theorem tgt_pair {C : Addr} {cenv : Env} {x y : Str} {px py pt : Pos} {ek : Nat} {vals : Nat → Value × Value → Prop} (hh : A.handled = none) (hxy : x ≠ y) (hL : cenv.locals = C) (hx : cenv.kindOf x = some .local) (hy : cenv.kindOf y = some .local)
    (hp : (cenv.scope.kind == .class || (cenv.scope.kind == .module && cenv.locals != cenv.globals)) = false) :
    Tgt prog w A (.Tuple [.Name x px, .Name y py] ek pt) cenv [C] (PP vals) (fun h => ∃ m, h.Ns C m) (fun i h => ∃ a b m, vals i (a, b) ∧ h.Ns C m ∧ m x = some a ∧ m y = some b) where
  live := fun h ⟨m, o, _, _, e, _⟩ b hb => by rw [List.mem_singleton.mp hb]; exact ⟨o, e⟩
  ow := fun h h' ⟨m, hn⟩ k => ⟨m, hn.at' fun o e => k C (List.mem_singleton.mpr rfl) o e⟩
  bdOw := fun i h ⟨a, b, m, _, hn, _⟩ => ⟨m, hn⟩
  bdExt := fun i h h' ⟨a, b, m, hp, hn, hv⟩ k => ⟨a, b, m, hp, hn.keeps k, hv⟩
  asg := fun i v s Q E hPv ⟨m, hn⟩ hQ => by
    subst hL
    obtain ⟨T, a, b, rfl, hv, hT⟩ := hPv
    have hCl : cenv.locals < s.heap.objs.size := hn.lt
    refine assign_Tuple_tuple hh hT rfl rfl fun h₁ he₁ => ?_
    have hn₁ : h₁.Ns cenv.locals m := hn.extBut he₁ (Nat.ne_of_lt hCl)
    refine assignInOrder_cons (wpAny_assign_Name (wpAny_storeName_local hx hn₁ (fun h₂ hn₂ hs₂ => ?_) hp))
    refine assignInOrder_cons (wpAny_assign_Name (wpAny_storeName_local hy hn₂ (fun h₃ hn₃ hs₃ => assignInOrder_nil (hQ h₃ _ ⟨a, b, _, hv, hn₃, by simp [hxy], by simp⟩ fun c o hc e => ?_)) hp))
    have hc' : c ≠ cenv.locals := fun q => hc (by rw [q]; exact List.mem_singleton.mpr rfl)
    exact hs₃.extBut c o hc' (hs₂.extBut c o hc' (he₁ c o (Nat.ne_of_lt (Heap.lt_size e)) e))

theorem lay_none {scope : Scope} {cl : List (Str × Addr)} (h : scope.names.all (fun y => y.2 != .cell) = true) : Lay scope cl (fun _ => cl) (fun C => [C]) (fun C h => ∃ m, h.Ns C m) where
  hcl := fun C => by
    have e : ∀ (l : List (Str × NameKind)) (n : Nat), l.all (fun y => y.2 != .cell) = true → cellsFrom n l cl = cl := by
      intro l
      induction l with
      | nil => intro n _; rfl
      | cons a r ih =>
        intro n h
        simp only [List.all_cons, Bool.and_eq_true] at h
        unfold cellsFrom
        have : (a.2 == NameKind.cell) = false := by simpa [bne] using h.1
        rw [this]; exact ih n h.2
    exact e _ _ h
  hC := fun C => List.mem_singleton.mpr rfl
  hge := fun C b hb => by rw [List.mem_singleton.mp hb]; exact Nat.le_refl _
  hOw := fun hp => by
    have e : ∀ (l : List (Str × NameKind)) (g : Heap), l.all (fun y => y.2 != .cell) = true → pushCells g l = g := by
      intro l
      induction l with
      | nil => intro g _; rfl
      | cons a r ih =>
        intro g h
        simp only [List.all_cons, Bool.and_eq_true] at h
        unfold pushCells
        have : (a.2 == NameKind.cell) = false := by simpa [bne] using h.1
        rw [this]; exact ih g h.2
    rw [e _ _ h]; exact ⟨_, Heap.Ns.new ..⟩
  hNs := fun C h x => x
theorem lay_cell {scope : Scope} {cl : List (Str × Addr)} {x : Str} (h1 : ∀ n, cellsFrom n scope.names cl = (x, n) :: cl) (h2 : ∀ g, pushCells g scope.names = g.push { cls := .type "cell", data := .cell none }) :
    Lay scope cl (fun C => (x, C + 1) :: cl) (fun C => [C, C + 1]) (fun C h => (∃ m, h.Ns C m) ∧ ∃ ov, h.IsCell (C + 1) ov) where
  hcl := fun C => h1 _
  hC := fun C => List.mem_cons_self
  hge := fun C b hb => by
    rcases List.mem_cons.mp hb with rfl | hb
    · exact Nat.le_refl _
    · rw [List.mem_singleton.mp hb]; exact Nat.le_succ _
  hOw := fun hp => by
    rw [h2]
    have hn := (Heap.Ns.new hp (.type "dict"))
    have : ((hp.push { cls := .type "dict", data := .dict #[] }).push { cls := .type "cell", data := .cell none }).get? (hp.push { cls := .type "dict", data := .dict #[] }).objs.size = some { cls := .type "cell", data := .cell none } := Heap.get?_push_size _ rfl
    rw [Heap.size_push] at this
    exact ⟨⟨_, hn.keeps fun b o e => Heap.get?_push_of_some _ e⟩, none, _, this, rfl⟩
  hNs := fun C h x => x.1
end
end Mine
end
section
open PySem PySem.W PyProof.Rows PySem.Calls
namespace Mine
section
variable {prog : Program} {w : World} {A : Around} {E : Value → Shared → Prop} {s : Shared} {env : Env}
/-- a for loop by an invariant -/
theorem for_any {tgt iter : Expr} {body : List Stmt} {pos : Pos} {Q : Flow → Shared → Prop}
    (h : wpAny (model prog w) A (eval iter env) (fun xv s₁ => wpAny (model prog w) A (pyIter xv) (fun it s₂ => ∃ (I : Nat → Shared → Prop) (n : Nat), I n s₂ ∧
      ∀ n s E', I n s → wpAny (model prog w) A (pyNext it) (fun r s₁ => match r with
        | none => Q .next s₁
        | some v => wpAny (model prog w) A (letOwnedTupleGo tgt it v) (fun _ s₂ => wpAny (model prog w) A (assign tgt env v) (fun _ s₃ => wpAny (model prog w) A (execs body env) (fun f s₄ => match f with
          | .next | .cont => ∃ m, m < n ∧ I m s₄
          | .brk => Q .next s₄
          | .ret v => Q (.ret v) s₄) E' s₃) E' s₂) E' s₁) E' s) E s₁) E s)
    (hs : ∀ x, foldedSetIterable iter env x = pure x := by intro _; rfl) :
    wpAny (model prog w) A (exec (.For tgt iter body [] pos) env) Q E s := by
  refine wpAny_For (wpAny_mono h (fun xv s₁ h₁ => wpAny_mono h₁ (fun it s₂ h₂ => ?_) fun _ _ e => e) fun _ _ e => e) hs
  obtain ⟨I, n, hI, turn⟩ := h₂
  refine codeAny_loop' rfl I (fun n s hI => ?_) n hI
  show wpAny _ A ((forTurn tgt it body [] env).onRaise (fun x => do noteFrame x env; theTreesLotGoes x)) _ _ s
  refine wpAny_noted ?_
  simp only [forTurn]
  refine wpAny_bind (wpAny_standAt (wpAny_bind (wpAny_onRaise (wpAny_mono (turn n s _ hI) (fun r s₁ h₁ => ?_) fun _ _ h' => wpAny_standAt h'))))
  cases r with
  | none => exact wpAny_pure (.inr ⟨rfl, codeAny_block (wpAny_execs_nil h₁)⟩)
  | some v =>
    refine wpAny_bind (wpAny_mono h₁ (fun _ s₂ h₂ => ?_) fun _ _ h' => h')
    refine wpAny_bind (wpAny_mono h₂ (fun _ s₃ h₃ => wpAny_bind (wpAny_mono h₃ (fun f s₄ h₄ => ?_) fun _ _ h' => h')) fun _ _ h' => h')
    cases f with
    | next => exact wpAny_pure (.inl ⟨rfl, h₄⟩)
    | cont => exact wpAny_pure (.inl ⟨rfl, h₄⟩)
    | brk => exact wpAny_pure h₄
    | ret v => exact wpAny_pure h₄

/-- a for loop over an iterator: J i h holds of the heap when i turns are done -/
theorem for_itr {tgt iter : Expr} {body : List Stmt} {pos : Pos} {Q : Flow → Shared → Prop}
    (h : wpAny (model prog w) A (eval iter env) (fun xv s₁ => wpAny (model prog w) A (pyIter xv) (fun it s₂ => ∃ (s₁ : Shared) (n : Nat) (P : Nat → Value → Heap → Prop) (ft : List Addr), Itr prog w A tgt n P ft s₁ it s₂ ∧
      ∀ (fp wr : List Addr) (St : Nat → Heap → Prop), (∀ b ∈ wr, b ∈ fp) → (∀ i h h', St i h → (∀ b ∈ fp, ∀ o, h.get? b = some o → h'.get? b = some o) → St i h') → (∀ i h, St i h → ∀ b ∈ wr, ∃ o, h.get? b = some o) →
        (∀ b ∈ fp, b < s₂.heap.objs.size) → (∀ b ∈ wr, s₁.heap.get? b = none) → (∀ b ∈ fp, s₁.heap.get? b = none ∨ b ∈ ft) → St 0 s₂.heap → ∃ J : Nat → Heap → Prop, J 0 s₂.heap ∧ (∀ i h, J i h → St i h) ∧
        (∀ (i : Nat) (h : Heap) (tk : Nat) (v : Value) (h₁ : Heap) (tk₁ : Nat) (E' : Value → Shared → Prop), i < n → J i h → P i v h₁ → St (i + 1) h₁ → (∀ b o, b ∉ wr → h.get? b = some o → h₁.get? b = some o) →
          wpAny (model prog w) A (assign tgt env v) (fun _ s₃ => wpAny (model prog w) A (execs body env) (fun f s₄ => match f with
            | .next | .cont => ∃ h' tk', s₄ = { s₂ with heap := h', toks := tk' } ∧ J (i + 1) h'
            | .brk => Q .next s₄
            | .ret v => Q (.ret v) s₄) E' s₃) E' { s₂ with heap := h₁, toks := tk₁ }) ∧
        (∀ (h h' : Heap) (tk : Nat), J n h → (∀ b o, b ∉ wr → h.get? b = some o → h'.get? b = some o) → Q .next { s₂ with heap := h', toks := tk })) E s₁) E s)
    (hs : ∀ x, foldedSetIterable iter env x = pure x := by intro _; rfl) :
    wpAny (model prog w) A (exec (.For tgt iter body [] pos) env) Q E s := by
  refine for_any (wpAny_mono h (fun xv s₁ h₁ => wpAny_mono h₁ (fun it s₂ h₂ => ?_) fun _ _ e => e) fun _ _ e => e) hs
  obtain ⟨s₁, n, P, ft, ⟨_, I, fp, wr, Md, St, rfl, W, _, hlive, hst, hfp, hwr, hft⟩, hJ⟩ := h₂
  obtain ⟨J, J0, JS, turn, fin⟩ := hJ fp wr St W.sub W.frame hlive hfp hwr hft hst
  refine ⟨fun k s' => ∃ h tk i, s' = { s₂ with heap := h, toks := tk } ∧ J i h ∧ i ≤ n ∧ k = n + 1 - i, n + 1, ⟨s₂.heap, s₂.toks, 0, rfl, J0, Nat.zero_le _, rfl⟩, ?_⟩
  rintro k s' E' ⟨h, tk, i, rfl, hi, hin, rfl⟩
  by_cases hlt : i < n
  · refine W.item i _ _ _ hlt (JS _ _ hi) fun v h₁ tk₁ hMd hk₁ => ?_
    refine W.go i v _ _ _ hMd fun h₂ hP hst₂ hk₂ => ?_
    refine wpAny_mono (turn i h tk v h₂ tk₁ E' hlt hi hP hst₂ fun b o hb e => hk₂ b o hb (hk₁ b o hb e)) (fun _ s₃ h₃ => wpAny_mono h₃ (fun f s₄ h₄ => ?_) fun _ _ e => e) fun _ _ e => e
    cases f with
    | next => obtain ⟨h', tk', rfl, hJ'⟩ := h₄; exact ⟨n + 1 - (i + 1), by omega, h', tk', i + 1, rfl, hJ', hlt, rfl⟩
    | cont => obtain ⟨h', tk', rfl, hJ'⟩ := h₄; exact ⟨n + 1 - (i + 1), by omega, h', tk', i + 1, rfl, hJ', hlt, rfl⟩
    | brk => exact h₄
    | ret v => exact h₄
  · have : i = n := by omega
    subst this
    exact W.done _ _ _ (JS _ _ hi) fun h₁ tk₁ hk₁ => fin h h₁ tk₁ hi hk₁
end
theorem no_some {α : Type} {x : Option α} {o : α} (h : x = none) (e : x = some o) : False := by rw [h] at e; cases e
theorem list_plain : PlainAttrs "list" := ⟨⟨_, list_getattribute, canon_list_getattribute⟩, list_getattr_none⟩
section
variable {prog : Program} {w : World} {A : Around} {E : Value → Shared → Prop} {s : Shared} {env : Env}
theorem append_gen {o e : Expr} {p2 p4 p5 : Pos} {Q : Flow → Shared → Prop} (h : wpAny (model prog w) A (eval o env) (fun ov s₁ => ∃ D, ov = .ref D ∧ (∃ ys, s₁.heap.PlainList D ys) ∧
      wpAny (model prog w) A (eval e env) (fun y s₂ => ∃ ys, s₂.heap.PlainList D ys ∧ ys.size ≤ sizeLine ∧ ∀ h', h'.PlainList D (ys.push y) → Heap.SameBut D s₂.heap h' → Q .next { s₂ with heap := h' }) E s₁) E s)
    (hbase : attributeBase o "append" env (eval o env) = eval o env := by rfl) (he : starEach [e] env = [(false, eval e env)] := by rfl) (hline : (p2.endLine == p4.line) = true := by rfl)
    (hi : interactive env = false := by rfl) (hs : swapsWith (.Call (.Attribute o "append" p2) [e] [] p4) none p5.line env = pure false := by rfl) :
    wpAny (model prog w) A (exec (.Expr (.Call (.Attribute o "append" p2) [e] [] p4) p5) env) Q E s := by
  refine wpAny_Expr (wpAny_Call_method hbase (by rw [he]; rfl) hline list_plain slot_list_append type_list_append (wpAny_mono h (fun ov s₁ h₁ => ?_) fun _ _ x => x)) hi hs
  obtain ⟨D, rfl, ⟨ys, n, hD⟩, h₁⟩ := h₁
  refine ⟨⟨_, hD, rfl⟩, fun a e => by cases e; exact ⟨_, hD, rfl⟩, ?_⟩
  refine callWith_method1 (rest := []) ?_ he rfl
  rw [he]
  refine spliced_cons (wpAny_mono h₁ (fun y s₂ h₂ => spliced_nil ?_) fun _ _ x => x)
  obtain ⟨ys, hl, hz, hQ⟩ := h₂
  exact wpAny_list_append_plain hl (fun h' hl' hs' => hQ h' hl' hs') hz
end
/-- a text holds an opening bracket -/
def brk (x : Str) : Bool := decide (91 ∈ x.cps.toList)
/-- what stands for a row: a fresh pair of empty texts, or the row itself -/
def RowOut (T : Addr) (x : Str) (h : Heap) (y : Value) : Prop :=
  if brk x then ∃ T' t u, y = .ref T' ∧ h.IsTuple T' #[.str (Str.ofString "") t, .str (Str.ofString "") u] else y = .ref T
section
variable {w : World} {A : Around} {E : Value → Shared → Prop} {s : Shared} {Q : Value → Shared → Prop}
theorem call_ppv (G : Gr w s.heap) (R : Rm A 3 20) {a : Addr} {its : Array Value} {Ts : Nat → Addr} {nv : Nat → Value} {xs : Nat → Str} {ts : Nat → Tok} (hl : s.heap.IsList a its) (hsz : its.size ≤ 1000)
    (rows : ∀ j, j < its.size → its[j]? = some (.ref (Ts j)) ∧ s.heap.IsTuple (Ts j) #[nv j, .str (xs j) (ts j)])
    (hQ : ∀ D h' tk' ys, Ext s.heap h' → h'.PlainList D ys → s.heap.get? D = none → (∀ h'', Ext s.heap h'' → NewIn s.heap h' h'' → Paired (fun j y => RowOut (Ts j) (xs j) h'' y) (List.range its.size) ys.toList) → Q (.ref D) { s with heap := h', toks := tk' }) :
    wpAny (model PR w) A (call (.ref 38) [.ref a]) Q E s := by
  refine wpAny_call (call_plain_ret (binds := [(Str.ofString "parsed_email_header_tuples", .ref a)]) (by have := R.dep; omega) (G.kin 38 _ rfl) rfl G.nolim (codeRec_of G.kin (by rfl)) rfl (locs rfl) (fun h₁ F => ?_))
  have G₁ := G.keeps F.keep
  refine wpAny_execs_cons (wpAny_Assign_Name (List_ (spliced_nil (wpAny_newObj_type (wpAny_storeName_local rfl (Heap.Ns.keeps F.ns (Ext.push _)) (fun h₂ hn₂ hs₂ => ?_) rfl) (by size_fits)))))
  dsimp only at hn₂ hs₂ ⊢
  have hL₁ : s.heap.objs.size < h₁.objs.size := F.ns.lt
  have hLD : h₁.objs.size ≠ s.heap.objs.size := Nat.ne_of_gt hL₁
  have hD₂ : h₂.PlainList h₁.objs.size #[] := ⟨_, hs₂.extBut _ _ hLD (Heap.get?_push_size _ rfl)⟩
  have k₂ : Ext s.heap h₂ := fun b o e => hs₂.extBut b o (Nat.ne_of_lt (Heap.lt_size e)) (Heap.get?_push_of_some _ (F.keep b o e))
  have hDs : s.heap.get? h₁.objs.size = none := fresh_of (Nat.le_of_lt hL₁)
  have hLs : s.heap.get? s.heap.objs.size = none := fresh_of (Nat.le_refl _)
  generalize hLe : s.heap.objs.size = L at hn₂ hs₂ hL₁ hLD hLs ⊢
  generalize h₁.objs.size = D at hn₂ hD₂ hLD hDs ⊢
  have hl₂ : h₂.IsList a its := by obtain ⟨o, e, r⟩ := hl; exact ⟨o, k₂ _ _ e, r⟩
  refine wpAny_execs_cons (for_itr (ldL hn₂ rfl (itr_list R.hd hl₂ Keeps.refl fun it s₂ hIt => ⟨_, _, _, _, hIt, fun fp wr St hsub hframe hlive hfp hwr hft hst => ?_⟩)))
  obtain ⟨⟨H, tk₂, rfl, kH⟩, _⟩ := hIt
  have hDf : D ∉ wr := fun h => by have := hwr D h; obtain ⟨n, e⟩ := hD₂; rw [show h₂.get? D = none from this] at e; cases e
  have hLf : L ∉ wr := fun h => by have := hwr L h; obtain ⟨o, _, _, e, _⟩ := hn₂; exact no_some this e
  have hss : ∀ b o, s.heap.get? b = some o → b ∉ wr ∧ b ≠ L ∧ b ≠ D := fun b o e =>
    ⟨fun h => (by have := k₂ b o e; rw [show h₂.get? b = none from hwr b h] at this; cases this), fun q => (by rw [q, hLs] at e; cases e), fun q => (by rw [q, hDs] at e; cases e)⟩
  have hDH : H.PlainList D #[] := hD₂.at fun o e => kH D o e
  have hnH := hn₂.keeps kH
  have haL : a ≠ L := fun q => by obtain ⟨o, e, _⟩ := hl; exact no_some hLs (q ▸ e)
  have haD : a ≠ D := fun q => by obtain ⟨o, e, _⟩ := hl; exact no_some hDs (q ▸ e)
  have hLfp : L ∉ fp := fun h => by
    rcases hft L h with e | e
    · obtain ⟨o, _, _, e', _⟩ := hn₂; exact no_some e e'
    · exact haL (List.mem_singleton.mp e).symm
  have hDfp : D ∉ fp := fun h => by
    rcases hft D h with e | e
    · obtain ⟨n, e'⟩ := hD₂; exact no_some e e'
    · exact haD (List.mem_singleton.mp e).symm
  refine ⟨fun i h => St i h ∧ ∃ ys m, h.PlainList D ys ∧ h.Ns L m ∧ m (Str.ofString "accepted_values") = some (.ref D) ∧ ys.size = i ∧ (∀ b o, b ∉ wr → b ≠ L → b ≠ D → H.get? b = some o → h.get? b = some o) ∧
    ∀ h'', Ext s.heap h'' → NewIn H h h'' → Paired (fun j y => RowOut (Ts j) (xs j) h'' y) (List.range i) ys.toList,
    ⟨hst, #[], _, hDH, hnH, by simp, rfl, fun _ _ _ _ _ e => e, fun _ _ _ => by simpa using Paired.nil⟩, fun i h x => x.1, ?_, ?_⟩
  · rintro i h tk v h₃ tk₃ E' hi ⟨_, ys, m, hD, hn, hm, hys, hk, hG⟩ hv hst₃ hk₃
    obtain ⟨hTi, hTup⟩ := rows i hi
    have hv' : v = .ref (Ts i) := Option.some.inj ((show its[i]? = some v from hv).symm.trans hTi)
    subst hv'
    have hn₃ := hn.at' fun o e => hk₃ L o hLf e
    refine wpAny_assign_Name (wpAny_storeName_local rfl hn₃ (fun h₄ hn₄ hs₄ => ?_) rfl)
    dsimp only at hn₄ hs₄
    have k₄ : ∀ b o, b ≠ L → h₃.get? b = some o → h₄.get? b = some o := fun b o hb e => hs₄.extBut b o hb e
    have kk₄ : ∀ b o, b ∉ wr → b ≠ L → b ≠ D → H.get? b = some o → h₄.get? b = some o := fun b o n1 n2 n3 e => k₄ b o n2 (hk₃ b o n1 (hk b o n1 n2 n3 e))
    have ks₄ : Ext s.heap h₄ := fun b o e => kk₄ b o (hss b o e).1 (hss b o e).2.1 (hss b o e).2.2 (kH b o (k₂ b o e))
    have hD₄ : h₄.PlainList D ys := hD.at fun o e => k₄ D o hLD (hk₃ D o hDf e)
    have hT₄ : IsTup h₄ (Ts i) ([nv i, .str (xs i) (ts i)].toArray) := hTup.at fun o e => ks₄ _ o e
    have hst₄ : St (i + 1) h₄ := hframe _ _ _ hst₃ fun b hb o e => k₄ b o (fun q => hLfp (q ▸ hb)) e
    have hDH0 : ∀ b, H.get? b = none → b ∉ wr ∧ b ≠ L ∧ b ≠ D := fun b e =>
      ⟨fun hb => (by obtain ⟨o', e'⟩ := hlive _ _ hst b hb; exact no_some e e'), fun q => (by obtain ⟨o', _, _, e', _⟩ := hnH; exact no_some e (q ▸ e')), fun q => (by obtain ⟨n', e'⟩ := hDH; exact no_some e (q ▸ e'))⟩
    refine wpAny_execs_cons (wpAny_If (wpAny_isTrue_Compare1 (Constant_str (Subscript_ (ldL hn₄ (by simp) (wpAny_Constant_int (item_tupleT hT₄ (by decide) (by decide) (j := 1) rfl rfl (PyProof.Rows.in_str (wpAny_truthy_bool ?_)))))))))
    have hbq : (!(Builtin.Str.occurrences (xs i) (Str.ofString "[") 0 (xs i).length 1).isEmpty) = brk (xs i) := StrLaws.found_one (xs i) 91
    rw [hbq]
    have hysz : ys.size ≤ sizeLine := by rw [sizeLine_eq]; omega
    cases hbr : brk (xs i) with
    | true =>
      simp only [if_true]
      refine wpAny_execs_cons (wpAny_Assign_Name (Tuple_ ?_))
      refine spliced_more (Constant_str (spliced_more (Constant_str (spliced_none ?_))))
      refine (wpAny_newObj_type (wpAny_storeName_local rfl (Heap.Ns.keeps hn₄ (Ext.push _)) (fun h₅ hn₅ hs₅ => ?_) rfl) (by size_fits))
      dsimp only at hn₅ hs₅ ⊢
      refine wpAny_execs_nil ?_
      dsimp only
      have hLlt : L < h₄.objs.size := hn₄.lt
      have k₅ : ∀ b o, b ≠ L → h₄.get? b = some o → h₅.get? b = some o := fun b o hb e => hs₅.extBut b o hb (Heap.get?_push_of_some _ e)
      have hT₅ : h₅.get? h₄.objs.size = some { cls := .type "tuple", data := .seq _ } := hs₅.extBut _ _ (Nat.ne_of_gt hLlt) (Heap.get?_push_size _ rfl)
      have hTn : h₄.get? h₄.objs.size = none := fresh_of (Nat.le_refl _)
      refine wpAny_execs_cons (append_gen ?_)
      refine ldL hn₅ (Eq.trans (if_neg (by decide)) (Eq.trans (if_neg (by decide)) hm)) ⟨D, rfl, ⟨ys, hD₄.at fun o e => k₅ D o hLD e⟩, ?_⟩
      refine ldL hn₅ (if_pos rfl) ⟨ys, hD₄.at fun o e => k₅ D o hLD e, hysz, fun h₆ hl₆ hs₆ => ?_⟩
      refine wpAny_execs_nil ⟨h₆, _, rfl, ?_⟩
      have k₆ : ∀ b o, b ≠ L → b ≠ D → h₄.get? b = some o → h₆.get? b = some o := fun b o n1 n2 e => hs₆.extBut b o n2 (k₅ b o n1 e)
      refine ⟨hframe _ _ _ hst₄ fun b hb o e => k₆ b o (fun q => hLfp (q ▸ hb)) (fun q => hDfp (q ▸ hb)) e, ys.push (.ref h₄.objs.size), _, hl₆, hn₅.sameBut hs₆ (Ne.symm hLD), Eq.trans (if_neg (by decide)) (Eq.trans (if_neg (by decide)) hm), by simp [hys], fun b o n1 n2 n3 e => k₆ b o n2 n3 (kk₄ b o n1 n2 n3 e), fun h'' e0 e1 => ?_⟩
      rw [List.range_succ, Array.toList_push]
      refine Paired.snoc (hG h'' e0 fun b o e2 e => e1 b o e2 (k₆ b o (hDH0 b e2).2.1 (hDH0 b e2).2.2 (k₄ b o (hDH0 b e2).2.1 (hk₃ b o (hDH0 b e2).1 e)))) ?_
      unfold RowOut
      rw [hbr, if_pos rfl]
      have hTD : h₄.objs.size ≠ D := fun q => by obtain ⟨n, e⟩ := hD₄; exact no_some hTn (q ▸ e)
      have hTH : H.get? h₄.objs.size = none := by
        cases q : H.get? h₄.objs.size with
        | none => rfl
        | some o =>
          exfalso
          by_cases h1 : h₄.objs.size ∈ wr
          · obtain ⟨o', e'⟩ := hlive _ _ hst₄ _ h1; exact no_some hTn e'
          · exact no_some hTn (kk₄ _ o h1 (Nat.ne_of_gt hLlt) hTD q)
      exact ⟨h₄.objs.size, _, _, rfl, _, e1 _ _ hTH (hs₆.extBut _ _ hTD hT₅), rfl, _, rfl⟩
    | false =>
      simp only [Bool.false_eq_true, if_false]
      refine wpAny_execs_nil ?_
      dsimp only
      refine wpAny_execs_cons (append_gen ?_)
      refine ldL hn₄ (Eq.trans (if_neg (by decide)) hm) ⟨D, rfl, ⟨ys, hD₄⟩, ?_⟩
      refine ldL hn₄ (if_pos rfl) ⟨ys, hD₄, hysz, fun h₆ hl₆ hs₆ => ?_⟩
      refine wpAny_execs_nil ⟨h₆, _, rfl, ?_⟩
      have k₆ : ∀ b o, b ≠ D → h₄.get? b = some o → h₆.get? b = some o := fun b o n2 e => hs₆.extBut b o n2 e
      refine ⟨hframe _ _ _ hst₄ fun b hb o e => k₆ b o (fun q => hDfp (q ▸ hb)) e, ys.push (.ref (Ts i)), _, hl₆, hn₄.sameBut hs₆ (Ne.symm hLD), Eq.trans (if_neg (by decide)) hm, by simp [hys], fun b o n1 n2 n3 e => k₆ b o n3 (kk₄ b o n1 n2 n3 e), fun h'' e0 e1 => ?_⟩
      rw [List.range_succ, Array.toList_push]
      refine Paired.snoc (hG h'' e0 fun b o e2 e => e1 b o e2 (k₆ b o (hDH0 b e2).2.2 (k₄ b o (hDH0 b e2).2.1 (hk₃ b o (hDH0 b e2).1 e)))) ?_
      unfold RowOut
      rw [hbr, if_neg Bool.false_ne_true]
  · rintro h h' tk ⟨_, ys, m, hD, hn, hm, hys, hk, hG⟩ hk'
    refine wpAny_execs_cons (wpAny_Return_some (ldL (hn.at' fun o e => hk' L o hLf e) hm ?_))
    refine hQ D h' tk ys (fun b o e => hk' b o (hss b o e).1 (hk b o (hss b o e).1 (hss b o e).2.1 (hss b o e).2.2 (kH b o (k₂ b o e)))) (hD.at fun o e => hk' D o hDf e) hDs fun h'' e0 e1 => hG h'' e0 fun b o e2 e => e1 b o (none_of (Ext.trans k₂ kH) e2) (hk' b o ?_ e)
    intro hb
    obtain ⟨o', e'⟩ := hlive _ _ hst b hb
    rw [show H.get? b = some o' from e'] at e2; cases e2
end
end Mine
end
section
open PySem PySem.W PyProof.Rows PySem.Calls
namespace Mine
section
variable {M : Model} {A : Around} {E : Value → Shared → Prop} {s : Shared} {env : Env} {x : Str} {pos : Pos} {v : Value} {Q : Value → Shared → Prop}
theorem ldCell {c : Addr} (hc : env.cells.lookup x = some c) (hv : s.heap.IsCell c (some v)) (h : Q v s)
    (hk : env.scope.kind = .function := by rfl) (hx : env.kindOf x = some .cell := by rfl) (hd : (x == ("__debug__" : Str)) = false := by decide) :
    wpAny M A (eval (.Name x pos) env) Q E s := wpAny_Name (wpAny_loadName_cell hk hx hc hv h) hd
end
section
variable {w : World} {A : Around} {E : Value → Shared → Prop} {s : Shared} {env : Env} {Q : Value → Shared → Prop}
/-- range(n), n written -/
theorem eval_range {n : Int} {p p1 p2 : Pos} {k : Nat} (G : Gr w s.heap) (h : ∀ r h' tk t u v, IsRange h' r 0 n 1 t u v → Ext s.heap h' → Q (.ref r) { s with heap := h', toks := tk })
    (hg : env.globals = mainGlobals := by rfl) (hb : env.builtins = builtinsNs := by rfl) (hk : env.scope.kind = .function := by rfl) (hx : env.kindOf (Str.ofString "range") = some .globalImplicit := by rfl) :
    wpAny (model PR w) A (eval (.Call (.Name (Str.ofString "range") p) [.Constant (.int n) k p1] [] p2) env) Q E s := by
  refine Call_ (ldB G (by rfl) boot_range (by decide) ?_ hg hb hk hx)
  refine PyProof.Rows.callWith_type1 (spliced_more (wpAny_Constant_int (spliced_none (call_range_1 ?_))))
  exact h _ _ _ _ _ _ (Heap.get?_push_size _ rfl) (Ext.push _)
end
/-- the least of some masks -/
def lst (ms : List Nat) : List Nat := (List.range 16).filter fun x => ms.any (· == x) && (ms.filter fun y => (y &&& x) == y && y != x).isEmpty
abbrev asInts (ms : List Nat) : List Int := ms.map fun n : Nat => (n : Int)
theorem paired_asInts : ∀ {l : List Nat} {ys : List Value}, Paired (fun (i : Nat) (y : Value) => ∃ t, y = .int (i : Int) t) l ys → IntsAre ys (asInts l)
  | _, _, .nil => .nil
  | _, _, .cons ⟨t, e⟩ r => by subst e; exact .cons _ t (paired_asInts r)
theorem bitAnd_nat (a b : Nat) : Builtin.bitAnd (a : Int) (b : Int) = ((a &&& b : Nat) : Int) := rfl
theorem any_asInts (ms : List Nat) (i : Nat) : (asInts ms).any (· == (0 + (i : Int))) = ms.any (· == i) := by
  rw [List.any_map]
  congr 1
  funext a
  show ((a : Int) == 0 + (i : Int)) = (a == i)
  rw [Bool.eq_iff_iff, beq_iff_eq, beq_iff_eq]
  omega
theorem asInts_length (ms : List Nat) : (asInts ms).length = ms.length := List.length_map _
theorem asInts_get {vs : List Value} {ms : List Nat} (h : IntsAre vs (asInts ms)) {j : Nat} (hj : j < ms.length) : ∃ t, vs[j]? = some (.int ((ms.getD j 0 : Nat) : Int) t) := by
  induction ms generalizing vs j with
  | nil => exact absurd hj (Nat.not_lt_zero _)
  | cons m r ih =>
    cases h with
    | cons n t h' =>
      cases j with
      | zero => exact ⟨t, rfl⟩
      | succ j => exact ih h' (by simpa using hj)
theorem filter_range_get {α : Type} (d : α) (p : α → Bool) : ∀ (l : List α), (((List.range l.length).filter fun j => p (l.getD j d)).map fun j => l.getD j d) = l.filter p := by
  intro l
  induction l with
  | nil => rfl
  | cons a r ih =>
    rw [List.length_cons, List.range_succ_eq_map, List.filter_cons, List.filter_map]
    cases hp : p a with
    | true => simp [hp, ← ih, Function.comp_def]
    | false => simp [hp, ← ih, Function.comp_def]
section
variable {w : World} {A : Around} {E : Value → Shared → Prop} {s : Shared} {Q : Value → Shared → Prop}
theorem call_least (G : Gr w s.heap) (R : Rm A 3 90) {a : Addr} {vs : List Value} {ms : List Nat} (hl : s.heap.IsList a vs.toArray) (hi : IntsAre vs (asInts ms)) (hsz : ms.length ≤ 1000)
    (hQ : ∀ D h' tk' ys, Ext s.heap h' → h'.PlainList D ys → s.heap.get? D = none → IntsAre ys.toList (asInts (lst ms)) → Q (.ref D) { s with heap := h', toks := tk' }) :
    wpAny (model PR w) A (call (.ref 60) [.ref a]) Q E s := by
  refine wpAny_call (call_cells_ret (binds := [(Str.ofString "masks", .ref a)]) (by have := R.dep; omega) (G.kin 60 _ rfl) rfl G.nolim (codeRec_of G.kin (by rfl)) rfl (kindsX (by rfl) _) (fun h₁ tk F X => ?_))
  have G₁ := G.keeps F.keep
  have hc : h₁.IsCell (s.heap.objs.size + 1) (some (.ref a)) := X.cell (Str.ofString "masks") _ rfl
  have hl₁ : h₁.IsList a vs.toArray := by obtain ⟨o, e, r⟩ := hl; exact ⟨o, F.keep _ _ e, r⟩
  generalize s.heap.objs.size = L at hc ⊢
  refine wpAny_execs_cons (wpAny_Return_some ?_)
  refine lc_eval (h₀ := h₁) (n := 16) (P := PR' 0) (fun x => ms.any (· == x) && (ms.filter fun y => (y &&& x) == y && y != x).isEmpty) (fun h i y => ∃ t, y = .int (i : Int) t)
    (lay_cell (x := Str.ofString "x") (cl := [(Str.ofString "masks", L + 1)]) (fun n => rfl) (fun g => rfl)) (by rfl) rfl (by decide) (by decide) ?_
  refine eval_range G₁ fun r h₂ tk₂ t u v hr k₂ => ?_
  refine itr_range (n := 16) R.hd hr (by decide) (by decide) Keeps.refl fun it s₂ hIt => ⟨_, _, k₂, hIt, fun C => ⟨_, tgt_cell (fun i v => ∃ t, v = .int (0 + (i : Int)) t) (fun i v h hp => hp) rfl rfl rfl, ?_, ?_⟩, ?_⟩
  · rintro i s₃ E' hi16 ⟨v, ⟨t', rfl⟩, hC, hx⟩ k₃
    have hc₃ : s₃.heap.IsCell (L + 1) (some (.ref a)) := hc.keeps k₃
    have hl₃ : s₃.heap.IsList a vs.toArray := by obtain ⟨o, e, r⟩ := hl₁; exact ⟨o, k₃ _ _ e, r⟩
    refine wpAny_tests_one (isTrue_and (wpAny_isTrue_Compare1 (ldCell rfl hx (ldCell rfl hc₃ (in_list_ints hl₃ hi (wpAny_truthy_bool ?_))))))
    rw [any_asInts]
    cases hany : ms.any (· == i) with
    | false => simp only [Bool.false_eq_true, if_false]; exact ⟨by simp only [hany, Bool.false_and], Keeps.refl⟩
    | true =>
      simp only [if_true]
      refine isTrue_and (wpAny_isTrue_Compare1 ?_)
      refine lc_eval (h₀ := s₃.heap) (n := vs.toArray.size) (P := PL vs.toArray) (fun j => (ms.getD j 0 &&& i) == ms.getD j 0 && ms.getD j 0 != i) (fun h j y => ∃ t, y = .int ((ms.getD j 0 : Nat) : Int) t)
        (lay_none (cl := [(Str.ofString "x", C + 1)]) (by rfl)) (by rfl) rfl (by decide) (by have := hi.length; rw [asInts_length] at this; rw [sizeLine_eq, List.size_toArray]; omega) ?_
      refine ldCell rfl hc₃ (itr_list R.hd hl₃ Keeps.refl fun it s₄ hIt => ⟨_, _, Ext.refl, hIt, fun C' => ⟨_, tgt_local (fun i v => vs.toArray[i]? = some v) (fun i v h hp => hp) rfl rfl rfl, ?_, ?_⟩, ?_⟩)
      · rintro j s₅ E₅ hj ⟨v, m, hv, hn, hm⟩ k₅
        have hj' : j < ms.length := by have := hi.length; rw [asInts_length] at this; rw [List.size_toArray] at hj; omega
        obtain ⟨tv, hg⟩ := asInts_get hi hj'
        have hv' : v = .int ((ms.getD j 0 : Nat) : Int) tv := Option.some.inj ((hv : vs.toArray[j]? = some v).symm.trans (by rw [List.getElem?_toArray]; exact hg))
        subst hv'
        have hx₅ := hx.keeps k₅
        refine wpAny_tests_one (isTrue_and (wpAny_isTrue_Compare1 (wpAny_BinOp (ldL hn hm (ldCell rfl hx₅ (PyProof.Rows.and_int ?_))))))
        refine ldL hn hm (PyProof.Rows.eq_int (wpAny_truthy_bool ?_))
        rw [show (0 + (i : Int)) = (i : Int) from Int.zero_add _, bitAnd_nat]
        have e1 : ((((ms.getD j 0 &&& i : Nat) : Int)) == ((ms.getD j 0 : Nat) : Int)) = ((ms.getD j 0 &&& i) == ms.getD j 0) := by rw [Bool.eq_iff_iff, beq_iff_eq, beq_iff_eq]; omega
        rw [e1]
        cases hq : (ms.getD j 0 &&& i) == ms.getD j 0 with
        | false => rw [if_neg Bool.false_ne_true]; exact ⟨by simp only [hq, Bool.false_and], ⟨_, _, rfl, fun _ _ e => e⟩⟩
        | true =>
          rw [if_pos rfl]
          refine isTrue_and (wpAny_isTrue_Compare1 (ldL hn hm (ldCell rfl hx₅ (PyProof.Rows.ne_int (wpAny_truthy_bool ?_)))))
          have e2 : ((((ms.getD j 0 : Nat) : Int)) != (0 + (i : Int))) = (ms.getD j 0 != i) := by
            rw [Bool.eq_iff_iff, bne_iff_ne, bne_iff_ne]; omega
          rw [e2]
          cases hq2 : ms.getD j 0 != i with
          | false => rw [if_neg Bool.false_ne_true]; exact ⟨by simp only [hq, hq2, Bool.true_and], ⟨_, _, rfl, fun _ _ e => e⟩⟩
          | true => rw [if_pos rfl]; exact isTrue_and_nil ⟨by simp only [hq, hq2, Bool.true_and], ⟨_, _, rfl, fun _ _ e => e⟩⟩
      · rintro j s₅ E₅ hj hp ⟨v, m, hv, hn, hm⟩ k₅
        have hj' : j < ms.length := by have := hi.length; rw [asInts_length] at this; rw [List.size_toArray] at hj; omega
        obtain ⟨tv, hg⟩ := asInts_get hi hj'
        have hv' : v = .int ((ms.getD j 0 : Nat) : Int) tv := Option.some.inj ((hv : vs.toArray[j]? = some v).symm.trans (by rw [List.getElem?_toArray]; exact hg))
        subst hv'
        exact ldL hn hm ⟨Keeps.refl, fun _ _ _ => ⟨tv, rfl⟩⟩
      · intro D h' tk' ys hD hl' hG k'
        have hI : IntsAre ys.toList (asInts (ms.filter fun y => (y &&& i) == y && y != i)) := by
          have h1 := hG h' k' fun b o _ e => e
          have hlen : vs.toArray.size = ms.length := by have := hi.length; rw [asInts_length] at this; rw [List.size_toArray]; omega
          rw [hlen] at h1
          have h2 : ∀ {l : List Nat} {ys : List Value}, Paired (fun (j : Nat) (y : Value) => ∃ t, y = .int ((ms.getD j 0 : Nat) : Int) t) l ys → IntsAre ys (asInts (l.map fun j => ms.getD j 0)) := by
            intro l ys h
            induction h with
            | nil => exact .nil
            | cons e r ih => obtain ⟨t, rfl⟩ := e; exact .cons _ t ih
          have h3 := h2 h1
          rw [filter_range_get 0 (fun y => (y &&& i) == y && y != i) ms] at h3
          exact h3
        refine List_ (spliced_none (wpAny_newObj_type ?_ (by size_fits)))
        refine eq_intsK (vs := ys.toList) (us := []) (ns := asInts (ms.filter fun y => (y &&& i) == y && y != i)) (ms := []) (by obtain ⟨n, e⟩ := hl'; exact ⟨_, Heap.get?_push_of_some _ e, rfl, n, rfl⟩) hI ⟨_, Heap.get?_push_size _ rfl, rfl, _, rfl⟩ .nil (by have := R.un; show A.units + 3 + 64 < _; omega) ?_
        refine wpAny_truthy_bool ?_
        have e3 : decide (asInts (ms.filter fun y => (y &&& i) == y && y != i) = []) = (ms.filter fun y => (y &&& i) == y && y != i).isEmpty := by
          cases ms.filter fun y => (y &&& i) == y && y != i <;> simp [asInts]
        rw [e3]
        cases hq : (ms.filter fun y => (y &&& i) == y && y != i).isEmpty with
        | false => rw [if_neg Bool.false_ne_true]; exact ⟨by simp only [hany, hq, Bool.true_and], ⟨_, _, rfl, fun b o e => Heap.get?_push_of_some _ (k' b o e)⟩⟩
        | true => rw [if_pos rfl]; exact isTrue_and_nil ⟨by simp only [hany, hq, Bool.true_and], ⟨_, _, rfl, fun b o e => Heap.get?_push_of_some _ (k' b o e)⟩⟩
  · rintro i s₃ E' hi16 hp ⟨v, ⟨t', rfl⟩, hC, hx⟩ k₃
    refine ldCell rfl hx ⟨Keeps.refl, fun h' _ _ => ⟨t', by simp⟩⟩
  · intro D h' tk' ys hD hl' hG k'
    refine hQ D h' tk' ys (Ext.trans F.keep (Ext.trans k₂ k')) hl' (none_of (Ext.trans F.keep k₂) hD) ?_
    exact paired_asInts (hG h' (Ext.trans k₂ k') fun b o _ e => e)
end
end Mine
end
section
open PySem PySem.W PyProof.Rows PySem.Calls
namespace Mine
/-- the three rows of signs: with a bracket, plain, of figures -/
structure SgOK (O P N : Nat → Str) : Prop where
  ob : ∀ k, k < 4 → brk (O k) = true ∧ (O k).cps.size ≤ 3
  pl : ∀ k, k < 4 → ∃ c, (P k).cps = #[c] ∧ c ≠ 91 ∧ Sre.isDigit c = false ∧ c ≠ 46 ∧ c ≠ 10
  vo : ∀ k, k < 4 → ∀ c ∈ (O k).cps.toList, c < 0x110000
  vp : ∀ k, k < 4 → ∀ c ∈ (P k).cps.toList, c < 0x110000
  nu : ∀ k, k < 4 → (N k).cps.size ≤ 3 ∧ 0 < (N k).cps.size ∧ ∀ c ∈ (N k).cps.toList, Sre.isDigit c = true
/-- a list of four texts -/
def StrL (h : Heap) (a : Addr) (f : Nat → Str) : Prop := ∃ vs : List Value, h.IsList a vs.toArray ∧ vs.length = 4 ∧ ∀ k, k < 4 → ∃ t, vs[k]? = some (.str (f k) t)
theorem StrL.ext {h h' : Heap} {a : Addr} {f : Nat → Str} (x : StrL h a f) (k : ∀ o, h.get? a = some o → h'.get? a = some o) : StrL h' a f := by
  obtain ⟨vs, ⟨o, e, r⟩, l, g⟩ := x
  exact ⟨vs, ⟨o, k o e, r⟩, l, g⟩
theorem StrL.at {h h' : Heap} {a : Addr} {f : Nat → Str} (x : StrL h a f) (k : ∀ o, h.get? a = some o → h'.get? a = some o) : StrL h' a f := by
  obtain ⟨vs, ⟨o, e, r⟩, l, g⟩ := x
  exact ⟨vs, ⟨o, k o e, r⟩, l, g⟩
def plainT (x : Str) : Bool := x.cps.size == 1 && x.cps.toList.all fun c => c != 91 && !Sre.isDigit c && c != 46 && c != 10 && decide (c < 0x110000)
def figT (x : Str) : Bool := decide (x.cps.size ≤ 3) && decide (0 < x.cps.size) && x.cps.toList.all Sre.isDigit
theorem plainT_ok {x : Str} (h : plainT x = true) : ∃ c, x.cps = #[c] ∧ c ≠ 91 ∧ (Sre.isDigit c = false ∧ c ≠ 46 ∧ c ≠ 10) ∧ c < 0x110000 := by
  obtain ⟨⟨l⟩⟩ := x
  unfold plainT at h
  match l, h with
  | [], h => simp at h
  | [c], h => exact ⟨c, rfl, by simp at h; exact ⟨h.1.1.1.1, ⟨h.1.1.1.2, h.1.1.2, h.1.2⟩, h.2⟩⟩
  | _ :: _ :: _, h => simp at h
theorem figT_ok {x : Str} (h : figT x = true) : x.cps.size ≤ 3 ∧ 0 < x.cps.size ∧ ∀ c ∈ x.cps.toList, Sre.isDigit c = true := by
  unfold figT at h
  simp only [Bool.and_eq_true, decide_eq_true_eq, List.all_eq_true] at h
  exact ⟨h.1.1, h.1.2, h.2⟩
def SgAt (h : Heap) (v : Value) (O P N : Nat → Str) : Prop := ∃ T o p q, v = .ref T ∧ h.IsTuple T #[.ref o, .ref p, .ref q] ∧ StrL h o O ∧ StrL h p P ∧ StrL h q N
def fig (n i : Nat) : Nat := n / 8 ^ i % 8
theorem fig_lt (n i : Nat) : fig n i < 8 := Nat.mod_lt _ (by decide)
theorem fig_int (n i : Nat) : (((n : Int).fdiv ((8 : Int) ^ (0 + (i : Int)).toNat)).fmod 8) = (fig n i : Int) := by
  have e1 : (0 + (i : Int)).toNat = i := by omega
  have e2 : (8 : Int) ^ i = ((8 ^ i : Nat) : Int) := by rw [Int.natCast_pow]; rfl
  rw [e1, e2, Int.fdiv_eq_ediv_of_nonneg _ (Int.natCast_nonneg _), Int.fmod_eq_emod_of_nonneg _ (by decide), ← Int.natCast_ediv]
  rfl
theorem pw_small {i : Nat} (hi : i < 4) : ((8 : Int) ^ (0 + (i : Int)).toNat).natAbs < 1073741824 := by
  have e1 : (0 + (i : Int)).toNat = i := by omega
  rw [e1]
  have : i = 0 ∨ i = 1 ∨ i = 2 ∨ i = 3 := by omega
  rcases this with rfl | rfl | rfl | rfl <;> decide
theorem paired_get {α : Type} {F : Nat → α → Prop} : ∀ {l : List Nat} {ys : List α} {k i : Nat}, Paired F l ys → l[k]? = some i → ∃ y, ys[k]? = some y ∧ F i y
  | _, _, _, _, .nil, e => by simp at e
  | _, _, 0, _, .cons (b := b) h r, e => by simp at e; subst e; exact ⟨b, rfl, h⟩
  | _, _, k + 1, _, .cons h r, e => by obtain ⟨y, h1, h2⟩ := paired_get (k := k) r (by simpa using e); exact ⟨y, by simpa using h1, h2⟩
theorem paired_range {α : Type} {F : Nat → α → Prop} {n : Nat} {ys : List α} (h : Paired F (List.range n) ys) {k : Nat} (hk : k < n) : ∃ y, ys[k]? = some y ∧ F k y := paired_get h (by rw [List.getElem?_range hk])
def strOf : Option Value → Str
  | some (.str x _) => x
  | _ => Str.ofString ""
/-- four texts out of a paired list -/
theorem four_strs {Pr : Nat → Str → Prop} {ys : List Value} (h : Paired (fun (i : Nat) (y : Value) => ∃ x t, y = .str x t ∧ Pr i x) (List.range 4) ys) :
    ∃ f : Nat → Str, ys.length = 4 ∧ (∀ k, k < 4 → Pr k (f k)) ∧ ∀ k, k < 4 → ∃ t, ys[k]? = some (.str (f k) t) := by
  refine ⟨fun k => strOf ys[k]?, by rw [← h.length]; rfl, fun k hk => ?_, fun k hk => ?_⟩
  · obtain ⟨y, e, x, t, rfl, hp⟩ := paired_range h hk
    show Pr k (strOf ys[k]?)
    rw [e]; exact hp
  · obtain ⟨y, e, x, t, rfl, hp⟩ := paired_range h hk
    exact ⟨t, by show ys[k]? = some (.str (strOf ys[k]?) t); rw [e]; rfl⟩
theorem filter_true (l : List Nat) : l.filter (fun _ => true) = l := List.filter_eq_self.mpr fun _ _ => rfl
theorem isList_at {h h' : Heap} {D : Addr} {ys : Array Value} (x : h.IsList D ys) (k : ∀ o, h.get? D = some o → h'.get? D = some o) : h'.IsList D ys := by
  obtain ⟨o, e, r⟩ := x; exact ⟨o, k o e, r⟩
theorem fin_row {L D : Addr} {h' h₃ : Heap} {n : Nat} {ys : Array Value} {Pr : Str → Bool} (hn : n = 4) (hd : h'.get? D = none) (hl : h₃.PlainList D ys) (hL : ∃ o, h'.get? L = some o)
    (hG : ∀ h'', Ext (hideAll h' [L]) h'' → NewIn h' h₃ h'' → Paired (fun (i : Nat) (y : Value) => ∃ x t, y = .str x t ∧ Pr x = true) (List.filter (fun _ => true) (List.range n)) ys.toList)
    (kL : ∀ b o, b ≠ L → h'.get? b = some o → h₃.get? b = some o) : D ≠ L ∧ ∃ f : Nat → Str, StrL h₃ D f ∧ ∀ k, k < 4 → Pr (f k) = true := by
  subst hn
  refine ⟨fun q => by subst q; obtain ⟨o, e⟩ := hL; exact no_some hd e, ?_⟩
  have hg := hG h₃ (fun b o e => kL b o (fun q => by subst q; rw [hideAll_none _ List.mem_cons_self] at e; cases e) (of_hideAll _ e)) fun b o _ e => e
  rw [filter_true] at hg
  obtain ⟨f, h1, h2, h3⟩ := four_strs (Pr := fun _ x => Pr x = true) hg
  refine ⟨f, ⟨ys.toList, ?_, h1, h3⟩, h2⟩
  simpa using hl.isList
theorem getD_all {ws : List Str} {p : Str → Bool} (h : ws.all p = true) {i : Nat} (hi : i < ws.length) : p (ws.getD i PySem.Str.empty) = true := by
  rw [List.getD_eq_getElem?_getD, List.getElem?_eq_getElem hi]
  exact List.all_eq_true.mp h _ (List.getElem_mem hi)
section
variable {w : World} {A : Around} {E : Value → Shared → Prop} {s : Shared} {Q : Value → Shared → Prop}
theorem call_signs (G : Gr w s.heap) (R : Rm A 3 90) {n : Nat} {t : Tok} (hn : n < 4096)
    (hQ : ∀ v h' tk' O P N, Ext s.heap h' → SgOK O P N → SgAt h' v O P N → Q v { s with heap := h', toks := tk' }) :
    wpAny (model PR w) A (call (.ref 55) [.int (n : Int) t]) Q E s := by
  refine wpAny_call (call_cells_ret (binds := [(Str.ofString "total", .int (n : Int) t)]) (by have := R.dep; omega) (G.kin 55 _ rfl) rfl G.nolim (codeRec_of G.kin (by rfl)) rfl (kindsX (by rfl) _) (fun h₁ tk F X => ?_))
  have G₁ := G.keeps F.keep
  have hc : h₁.IsCell (s.heap.objs.size + 1) (some (.int (n : Int) t)) := X.cell (Str.ofString "total") _ rfl
  have hns := F.ns
  have kF : Ext s.heap h₁ := F.keep
  have hLs : s.heap.get? s.heap.objs.size = none := fresh_of (Nat.le_refl _)
  clear X F
  generalize s.heap.objs.size = L at hc hLs hns ⊢
  have k₁ : Ext s.heap (hideAll h₁ [L]) := fun b o e => hideAll_get _ (kF b o e) (fun hb => by rw [List.mem_singleton.mp hb] at e; exact no_some hLs e)
  have hc₁ : (hideAll h₁ [L]).IsCell (L + 1) (some (.int (n : Int) t)) := by obtain ⟨o, e, r⟩ := hc; exact ⟨o, hideAll_get _ e (fun hb => Nat.succ_ne_self L (List.mem_singleton.mp hb)), r⟩
  have e₁ : Ext (hideAll h₁ [L]) h₁ := fun b o e => of_hideAll _ e
  refine wpAny_execs_cons (lc_assign (h₀ := hideAll h₁ [L]) (n := 4) (P := PR' 0) (fun _ => true) (fun h i y => ∃ t, y = .int (fig n i : Int) t)
    (lay_none (cl := [(Str.ofString "total", L + 1)]) (by rfl)) (by rfl) (by rfl) rfl (by decide) rfl rfl (by decide) ?_)
  refine eval_range G₁ fun r h₂ tk₂ t₂ u₂ v₂ hr k₂ => ?_
  refine itr_range (s₀ := { s with heap := h₁, toks := tk }) (n := 4) R.hd hr (by decide) (by decide) ⟨_, _, rfl, k₂⟩ fun it s₂ hIt => ⟨_, _, _, e₁, hns, hIt, fun C => ⟨_, tgt_local (fun i v => ∃ t, v = .int (0 + (i : Int)) t) (fun i v h hp => hp) rfl rfl rfl, ?_, ?_⟩, ?_⟩
  · rintro i s₃ E' hi ⟨v, m, hv, hn', hm⟩ k₃
    exact wpAny_tests_nil ⟨rfl, Keeps.refl⟩
  · rintro i s₃ E' hi _ ⟨v, m, ⟨t', rfl⟩, hn', hm⟩ k₃
    refine wpAny_BinOp (wpAny_BinOp (ldCell rfl (hc₁.keeps k₃) ?_))
    refine wpAny_BinOp (wpAny_Constant_int (ldL hn' hm (pow_int_small (by omega) (by omega) (by decide) ?_)))
    refine floordiv_int (Int.ne_of_gt (Int.pow_pos (by decide))) ?_ (hp := Or.inl (PyProof.noPylong_small (pw_small hi)))
    refine wpAny_Constant_int (mod_int' (by decide) ?_)
    rw [fig_int]
    exact ⟨⟨_, _, rfl, fun _ _ e => e⟩, fun _ _ _ => ⟨_, rfl⟩⟩
  · intro D h' tk' ys hD hl' hG hn' kL
    have kL₁ : Ext s.heap h' := fun b o e => kL b o (fun q => no_some hLs (q ▸ e)) (kF b o e)
    have hg := hG h' (fun b o e => kL b o (fun q => by subst q; rw [hideAll_none _ List.mem_cons_self] at e; cases e) (e₁ b o e)) fun b o _ e => e
    rw [filter_true] at hg
    have hsz : ys.size = 4 := by rw [← Array.length_toList, ← hg.length]; rfl
    have hfg : ∀ k, k < 4 → ∃ t, ys[k]? = some (.int (fig n k : Int) t) := fun k hk => by
      obtain ⟨y, e, t, rfl⟩ := paired_range hg hk
      exact ⟨t, by simpa using e⟩
    have hlf := hl'.isList
    have hDL : D ≠ L := fun q => by subst q; obtain ⟨o, _, _, e, _⟩ := hns; exact no_some hD e
    clear hG hg hIt hr k₂ e₁ hc hc₁ k₁ hl' kL G₁ hns hD
    dsimp only
    have hnD : L ≠ D := Ne.symm hDL
    -- opened
    have e₂ : Ext (hideAll h' [L]) h' := fun b o e => of_hideAll _ e
    refine wpAny_execs_cons (lc_assign (h₀ := hideAll h' [L]) (n := ys.size) (P := PL ys) (fun _ => true) (fun h i y => ∃ x t, y = .str x t ∧ (brk x && decide (x.cps.size ≤ 3) && x.cps.toList.all fun c => decide (c < 0x110000)) = true)
      (lay_none (cl := []) (by rfl)) (by rfl) (by rfl) rfl (by decide) rfl rfl (by rw [hsz]; decide) ?_)
    refine ldL hn' (if_pos rfl) (itr_list R.hd hlf Keeps.refl fun it s₂ hIt => ⟨_, _, _, e₂, hn', hIt, fun C => ⟨_, tgt_local (fun i v => ys[i]? = some v) (fun i v h hp => hp) rfl rfl rfl, ?_, ?_⟩, ?_⟩)
    · rintro i s₃ E' hi ⟨v, m, hv, hn₃, hm⟩ k₃
      exact wpAny_tests_nil ⟨rfl, Keeps.refl⟩
    · rintro i ⟨g₃, ga, gd, gt, go⟩ E' hi _ ⟨v, m, hv, hn₃, hm⟩ k₃
      dsimp only at hn₃ k₃
      obtain ⟨t', e'⟩ := hfg i (by rw [← hsz]; exact hi)
      have hv' : v = .int (fig n i : Int) t' := Option.some.inj ((hv : ys[i]? = some v).symm.trans e')
      subst hv'
      refine Subscript_ (List_ ?_)
      refine spliced_more (Constant_str (spliced_more (Constant_str (spliced_more (Constant_str (spliced_more (Constant_str (spliced_none ?_))))))))
      refine wpAny_newObj_type ?_ (by size_fits)
      refine wpAny_BinOp (ldL (hn₃.keeps (Ext.push _)) hm (wpAny_Constant_int (mod_int' (by decide) ?_)))
      rw [Int.fmod_eq_emod_of_nonneg _ (by decide)]
      refine KTb.item_list ⟨_, Heap.get?_push_size _ rfl, rfl, _, rfl⟩ (.cons _ _ (.cons _ _ (.cons _ _ (.cons _ _ .nil)))) (by omega) (by show _ < ((4 : Nat) : Int); omega) (by omega) fun t hlt => ?_
      exact ⟨⟨_, _, rfl, Ext.push _⟩, fun _ _ _ => ⟨_, _, rfl, getD_all (p := fun x => brk x && decide (x.cps.size ≤ 3) && x.cps.toList.all fun c => decide (c < 0x110000)) (by decide) hlt⟩⟩
    · intro D₂ h₃ tk₃ ys₂ hD₂ hl₃ hG₂ hn₃ kL₂
      clear hIt
      dsimp only [Shared.heap] at hD₂ hG₂ hn₃ kL₂ ⊢
      obtain ⟨hO, O, sO, pO⟩ := fin_row hsz hD₂ hl₃ (by obtain ⟨o, _, _, e, _⟩ := hn'; exact ⟨o, e⟩) hG₂ kL₂
      have kL₃ : Ext s.heap h₃ := fun b o e => kL₂ b o (fun q => no_some hLs (q ▸ e)) (kL₁ b o e)
      have hlf₃ : h₃.IsList D ys := isList_at hlf fun o e => kL₂ D o hDL e
      clear hG₂ kL₂ hl₃ hD₂ e₂ hn' kL₁ hlf
      -- plain
      have e₂ : Ext (hideAll h₃ [L]) h₃ := fun b o e => of_hideAll _ e
      refine wpAny_execs_cons (lc_assign (h₀ := hideAll h₃ [L]) (n := ys.size) (P := PL ys) (fun _ => true) (fun h i y => ∃ x t, y = .str x t ∧ plainT x = true)
        (lay_none (cl := []) (by rfl)) (by rfl) (by rfl) rfl (by decide) rfl rfl (by rw [hsz]; decide) ?_)
      refine ldL hn₃ (Eq.trans (if_neg (by decide)) (if_pos rfl)) (itr_list R.hd hlf₃ Keeps.refl fun it s₂ hIt => ⟨_, _, _, e₂, hn₃, hIt, fun C => ⟨_, tgt_local (fun i v => ys[i]? = some v) (fun i v h hp => hp) rfl rfl rfl, ?_, ?_⟩, ?_⟩)
      · rintro i s₃ E' hi ⟨v, m, hv, hn₃, hm⟩ k₃
        exact wpAny_tests_nil ⟨rfl, Keeps.refl⟩
      · rintro i ⟨g₃, ga, gd, gt, go⟩ E' hi _ ⟨v, m, hv, hn₃, hm⟩ k₃
        dsimp only at hn₃ k₃
        obtain ⟨t', e'⟩ := hfg i (by rw [← hsz]; exact hi)
        have hv' : v = .int (fig n i : Int) t' := Option.some.inj ((hv : ys[i]? = some v).symm.trans e')
        subst hv'
        refine Subscript_ (Constant_str ?_)
        have hf8 := fig_lt n i
        have hfit : fitsSsize (fig n i : Int) = true := by generalize fig n i = q at hf8; unfold fitsSsize; simp; omega
        refine ldL hn₃ hm (item_str hfit (by omega) (by show _ < ((8 : Nat) : Int); omega) fun t => ?_)
        refine ⟨Keeps.refl, fun _ _ _ => ⟨_, _, rfl, ?_⟩⟩
        rw [item_meets ⟨by omega, by have := fig_lt n i; show _ < ((8 : Nat) : Int); omega⟩]
        have := fig_lt n i
        generalize fig n i = q at this ⊢
        have hq : q = 0 ∨ q = 1 ∨ q = 2 ∨ q = 3 ∨ q = 4 ∨ q = 5 ∨ q = 6 ∨ q = 7 := by omega
        rcases hq with rfl | rfl | rfl | rfl | rfl | rfl | rfl | rfl <;> decide
      · intro D₃ h₄ tk₄ ys₃ hD₃ hl₄ hG₃ hn₄ kL₃'
        clear hIt
        dsimp only [Shared.heap] at hD₃ hG₃ hn₄ kL₃' ⊢
        obtain ⟨hP, P, sP, pP⟩ := fin_row hsz hD₃ hl₄ (by obtain ⟨o, _, _, e, _⟩ := hn₃; exact ⟨o, e⟩) hG₃ kL₃'
        have kL₄ : Ext s.heap h₄ := fun b o e => kL₃' b o (fun q => no_some hLs (q ▸ e)) (kL₃ b o e)
        have hlf₄ : h₄.IsList D ys := isList_at hlf₃ fun o e => kL₃' D o hDL e
        have sO₄ : StrL h₄ D₂ O := sO.at fun o e => kL₃' D₂ o hO e
        clear hG₃ kL₃' hl₄ hD₃ e₂ hn₃ kL₃ hlf₃ sO
        -- numeric
        have e₂ : Ext (hideAll h₄ [L]) h₄ := fun b o e => of_hideAll _ e
        refine wpAny_execs_cons (lc_assign (h₀ := hideAll h₄ [L]) (n := ys.size) (P := PL ys) (fun _ => true) (fun h i y => ∃ x t, y = .str x t ∧ figT x = true)
          (lay_none (cl := []) (by rfl)) (by rfl) (by rfl) rfl (by decide) rfl rfl (by rw [hsz]; decide) ?_)
        refine ldL hn₄ (Eq.trans (if_neg (by decide)) (Eq.trans (if_neg (by decide)) (if_pos rfl))) (itr_list R.hd hlf₄ Keeps.refl fun it s₂ hIt => ⟨_, _, _, e₂, hn₄, hIt, fun C => ⟨_, tgt_local (fun i v => ys[i]? = some v) (fun i v h hp => hp) rfl rfl rfl, ?_, ?_⟩, ?_⟩)
        · rintro i s₃ E' hi ⟨v, m, hv, hn₃, hm⟩ k₃
          exact wpAny_tests_nil ⟨rfl, Keeps.refl⟩
        · rintro i ⟨g₃, ga, gd, gt, go⟩ E' hi _ ⟨v, m, hv, hn₃, hm⟩ k₃
          dsimp only at hn₃ k₃
          obtain ⟨t', e'⟩ := hfg i (by rw [← hsz]; exact hi)
          have hv' : v = .int (fig n i : Int) t' := Option.some.inj ((hv : ys[i]? = some v).symm.trans e')
          subst hv'
          refine Subscript_ (List_ ?_)
          refine spliced_more (Constant_str (spliced_more (Constant_str (spliced_more (Constant_str (spliced_more (Constant_str (spliced_none ?_))))))))
          refine wpAny_newObj_type ?_ (by size_fits)
          refine wpAny_BinOp (ldL (hn₃.keeps (Ext.push _)) hm (wpAny_Constant_int (floordiv_int (by decide) ?_ (hp := Or.inl (PyProof.noPylong_small (by decide))))))
          rw [Int.fdiv_eq_ediv_of_nonneg _ (by decide)]
          have hf := fig_lt n i
          refine KTb.item_list ⟨_, Heap.get?_push_size _ rfl, rfl, _, rfl⟩ (.cons _ _ (.cons _ _ (.cons _ _ (.cons _ _ .nil)))) (by omega) (by show _ < ((4 : Nat) : Int); omega) (by omega) fun t hlt => ?_
          exact ⟨⟨_, _, rfl, Ext.push _⟩, fun _ _ _ => ⟨_, _, rfl, getD_all (p := figT) (by decide) hlt⟩⟩
        · intro D₄ h₅ tk₅ ys₄ hD₄ hl₅ hG₄ hn₅ kL₄'
          clear hIt
          dsimp only [Shared.heap] at hD₄ hG₄ hn₅ kL₄' ⊢
          obtain ⟨hN, N, sN, pN⟩ := fin_row hsz hD₄ hl₅ (by obtain ⟨o, _, _, e, _⟩ := hn₄; exact ⟨o, e⟩) hG₄ kL₄'
          have kL₅ : Ext s.heap h₅ := fun b o e => kL₄' b o (fun q => no_some hLs (q ▸ e)) (kL₄ b o e)
          have sO₅ : StrL h₅ D₂ O := sO₄.at fun o e => kL₄' D₂ o hO e
          have sP₅ : StrL h₅ D₃ P := sP.at fun o e => kL₄' D₃ o hP e
          refine wpAny_execs_cons (wpAny_Return_some (Tuple_ ?_))
          refine spliced_more (ldL hn₅ (Eq.trans (if_neg (by decide)) (Eq.trans (if_neg (by decide)) (if_pos rfl))) ?_)
          refine spliced_more (ldL hn₅ (Eq.trans (if_neg (by decide)) (if_pos rfl)) ?_)
          refine spliced_more (ldL hn₅ (if_pos rfl) (spliced_none ?_))
          refine wpAny_newObj_type ?_ (by size_fits)
          refine hQ _ _ _ O P N (Ext.trans kL₅ (Ext.push _)) ⟨fun k hk => ?_, fun k hk => ?_, fun k hk => ?_, fun k hk => ?_, fun k hk => ?_⟩ ⟨_, _, _, _, rfl, ⟨_, Heap.get?_push_size _ rfl, rfl, _, rfl⟩, sO₅.ext (Ext.push _ _), sP₅.ext (Ext.push _ _), sN.ext (Ext.push _ _)⟩
          · have := pO k hk
            simp only [Bool.and_eq_true, decide_eq_true_eq] at this
            exact ⟨this.1.1, this.1.2⟩
          · obtain ⟨c, e, h1, h2, _⟩ := plainT_ok (pP k hk)
            exact ⟨c, e, h1, h2⟩
          · have := pO k hk
            simp only [Bool.and_eq_true, decide_eq_true_eq, List.all_eq_true] at this
            exact this.2
          · obtain ⟨c, e, _, _, h⟩ := plainT_ok (pP k hk)
            rw [e]; intro d hd; rw [List.mem_singleton.mp hd]; exact h
          · exact figT_ok (pN k hk)
end
end Mine
end
section
open PySem PySem.W PyProof.Rows PySem.Calls
namespace Mine
/-- rows of two texts -/
def rowD (p : Str × Str) : PyData := .tuple [.str p.1, .str p.2]
def RowsAre (h : Heap) (l : List (Str × Str)) (vs : List Value) : Prop := Paired (fun (p : Str × Str) (y : Value) => ∃ T t u, y = .ref T ∧ h.IsTuple T #[.str p.1 t, .str p.2 u]) l vs
theorem RowsAre.reads {h : Heap} : ∀ {l : List (Str × Str)} {vs : List Value}, RowsAre h l vs → ReadsAll h vs (l.map rowD) []
  | _, _, .nil => .nil
  | _, _, .cons ⟨T, t, u, e, o, ho, hc, n, hd⟩ r => by
    subst e
    exact ReadsAll.cons (as := []) (bs := []) (Reads.tuple ho hc hd (.cons (as := []) (bs := []) (.str _ _) (.cons (as := []) (bs := []) (.str _ _) .nil))) (RowsAre.reads r)
theorem rows_canLay : ∀ {l : List (Str × Str)}, (∀ p ∈ l, (∀ c ∈ p.1.cps.toList, c < 0x110000) ∧ ∀ c ∈ p.2.cps.toList, c < 0x110000) → PyData.canLayAll0 (l.map rowD) = true
  | [], _ => rfl
  | p :: r, h => by
    have h1 := h p List.mem_cons_self
    have e : ∀ x : Str, (∀ c ∈ x.cps.toList, c < 0x110000) → PyData.strOk x = true := fun x hx => by
      unfold PyData.strOk
      rw [Array.all_eq_true_iff_forall_mem]
      intro c hc
      exact decide_eq_true (hx c (Array.mem_toList_iff.mpr hc))
    simp only [List.map_cons, PyData.canLayAll0, rowD, PyData.canLay0, e _ h1.1, e _ h1.2, Bool.true_and, Bool.and_true]
    exact rows_canLay fun q hq => h q (List.mem_cons_of_mem _ hq)
theorem rows_depth : ∀ l : List (Str × Str), PyData.depthAll (l.map rowD) ≤ 1
  | [] => Nat.zero_le _
  | p :: r => by
    have := rows_depth r
    simp only [List.map_cons, PyData.depthAll, rowD, PyData.depth]
    omega
theorem rows_has : ∀ l : List (Str × Str), (Spec.Shape.list (.tuple [.str, .str])).has (.list (l.map rowD)) = true
  | [] => by simp [Spec.Shape.has]
  | p :: r => by
    have := rows_has r
    simp only [Spec.Shape.has] at this ⊢
    simp only [List.map_cons, List.all_cons, this, Bool.and_true]
    rfl
theorem rows_same : ∀ l m : List (Str × Str), Spec.sameAll (l.map rowD) (m.map rowD) = decide (l = m)
  | [], [] => rfl
  | [], _ :: _ => rfl
  | _ :: _, [] => rfl
  | (a, b) :: l, (c, d) :: m => by
    have e := rows_same l m
    simp only [List.map_cons, Spec.sameAll, e]
    have e1 : Spec.same (rowD (a, b)) (rowD (c, d)) = (a == c && b == d) := by
      simp only [rowD, Spec.same, Spec.sameAll, Bool.and_true]
    rw [e1, Bool.eq_iff_iff]
    simp [Prod.ext_iff]
theorem rows_shaped {l : List (Str × Str)} (h : ∀ p ∈ l, (∀ c ∈ p.1.cps.toList, c < 0x110000) ∧ ∀ c ∈ p.2.cps.toList, c < 0x110000) : SeqAt.shaped (.list (l.map rowD)) = true := by
  unfold SeqAt.shaped
  have := rows_depth l
  simp only [PyData.canLay0, rows_canLay h, PyData.depth, Bool.true_and]
  exact decide_eq_true (by omega)
section
variable {prog : Program} {w : World} {A : Around} {E : Value → Shared → Prop} {s : Shared} {Q : Value → Shared → Prop}
theorem rows_eq {a b : Addr} {xs ys : Array Value} {l m : List (Str × Str)} (ha : s.heap.IsList a xs) (hb : s.heap.IsList b ys) (hl : RowsAre s.heap l xs.toList) (hm : RowsAre s.heap m ys.toList)
    (ol : ∀ p ∈ l, (∀ c ∈ p.1.cps.toList, c < 0x110000) ∧ ∀ c ∈ p.2.cps.toList, c < 0x110000) (om : ∀ p ∈ m, (∀ c ∈ p.1.cps.toList, c < 0x110000) ∧ ∀ c ∈ p.2.cps.toList, c < 0x110000) (hu : A.units + 64 < cLine)
    (h : Q (.bool (decide (l = m))) s) : wpAny (model prog w) A (compareOp .Eq (.ref a) (.ref b)) Q E s := by
  obtain ⟨oa, ea, ca, na, da⟩ := ha
  obtain ⟨ob, eb, cb, nb, db⟩ := hb
  refine eq_dataH_same (Reads.list ea ca da hl.reads) (Reads.list eb cb db hm.reads) (rows_shaped ol) (rows_shaped om) hu (SeqAt.noMix_of_shape (.list (.tuple [.str, .str])) rfl _ _ (rows_has _) (rows_has _)) ?_
  rw [show Spec.same (.list (l.map rowD)) (.list (m.map rowD)) = decide (l = m) by rw [Spec.same]; exact rows_same l m]
  exact h
theorem rows_ne {a b : Addr} {xs ys : Array Value} {l m : List (Str × Str)} (ha : s.heap.IsList a xs) (hb : s.heap.IsList b ys) (hl : RowsAre s.heap l xs.toList) (hm : RowsAre s.heap m ys.toList)
    (ol : ∀ p ∈ l, (∀ c ∈ p.1.cps.toList, c < 0x110000) ∧ ∀ c ∈ p.2.cps.toList, c < 0x110000) (om : ∀ p ∈ m, (∀ c ∈ p.1.cps.toList, c < 0x110000) ∧ ∀ c ∈ p.2.cps.toList, c < 0x110000) (hu : A.units + 64 < cLine)
    (h : Q (.bool (!decide (l = m))) s) : wpAny (model prog w) A (compareOp .NotEq (.ref a) (.ref b)) Q E s := by
  obtain ⟨oa, ea, ca, na, da⟩ := ha
  obtain ⟨ob, eb, cb, nb, db⟩ := hb
  refine ne_dataH_same (Reads.list ea ca da hl.reads) (Reads.list eb cb db hm.reads) (rows_shaped ol) (rows_shaped om) hu (SeqAt.noMix_of_shape (.list (.tuple [.str, .str])) rfl _ _ (rows_has _) (rows_has _)) ?_
  rw [show Spec.same (.list (l.map rowD)) (.list (m.map rowD)) = decide (l = m) by rw [Spec.same]; exact rows_same l m]
  exact h
end
/-- letters of a choice -/
def bit (x k : Nat) : Bool := (x &&& 2 ^ k) != 0
def places (x : Nat) : List Nat := (List.range 4).filter (bit x)
def cat (f : Nat → Str) (x : Nat) : Str := Txt.join (Str.ofString "") ((places x).map f)
theorem mem_cat {f : Nat → Str} {x c : Nat} : c ∈ (cat f x).cps.toList ↔ ∃ k, k < 4 ∧ bit x k = true ∧ c ∈ (f k).cps.toList := by
  unfold cat Txt.join
  rw [StrLaws.glued_eq_join, mem_join]
  constructor
  · rintro (⟨t, ht, hc⟩ | ⟨_, hc⟩)
    · obtain ⟨k, hk, rfl⟩ := List.mem_map.mp ht
      obtain ⟨h1, h2⟩ := List.mem_filter.mp hk
      exact ⟨k, List.mem_range.mp h1, h2, hc⟩
    · exact absurd hc (by rw [show (Str.ofString "").cps.toList = [] by decide]; exact List.not_mem_nil)
  · rintro ⟨k, h1, h2, hc⟩
    exact .inl ⟨f k, List.mem_map.mpr ⟨k, List.mem_filter.mpr ⟨List.mem_range.mpr h1, h2⟩, rfl⟩, hc⟩
/-- a choice meets a member -/
def meets (c x : Nat) : Bool := (c &&& x) != 0
theorem meets_iff : ∀ c < 16, ∀ x < 16, (meets c x = true ↔ ∃ k, k < 4 ∧ bit c k = true ∧ bit x k = true) := by decide
section
variable {O P N : Nat → Str} (S : SgOK O P N)
include S
def markedF (O P : Nat → Str) (c k : Nat) : Str := if bit c k then O k else P k
def shownF (P N : Nat → Str) (c k : Nat) : Str := if bit c k then P k else N k
theorem brk_cat {c x : Nat} (hc : c < 16) (hx : x < 16) : brk (cat (markedF O P c) x) = meets c x := by
  rw [Bool.eq_iff_iff, meets_iff c hc x hx]
  unfold brk
  rw [decide_eq_true_eq, mem_cat]
  constructor
  · rintro ⟨k, hk, hb, hm⟩
    refine ⟨k, hk, ?_, hb⟩
    cases hq : bit c k with
    | true => rfl
    | false =>
      unfold markedF at hm
      rw [hq, if_neg Bool.false_ne_true] at hm
      obtain ⟨d, e, h91, _⟩ := S.pl k hk
      rw [e] at hm
      exact absurd (List.mem_singleton.mp hm).symm h91
  · rintro ⟨k, hk, hc', hb⟩
    refine ⟨k, hk, hb, ?_⟩
    unfold markedF
    rw [hc', if_pos rfl]
    exact of_decide_eq_true (S.ob k hk).1
theorem hdn_cat {c x : Nat} (hc : c < 16) (hx : x < 16) : hdn (cat (shownF P N c) x).cps.toList = meets c x := by
  rw [Bool.eq_iff_iff, meets_iff c hc x hx]
  unfold hdn
  rw [Bool.and_eq_true, Bool.not_eq_true', Bool.not_eq_true']
  constructor
  · rintro ⟨_, h2⟩
    obtain ⟨d, hd, hn⟩ := List.all_eq_false.mp h2
    obtain ⟨k, hk, hb, hm⟩ := mem_cat.mp hd
    refine ⟨k, hk, ?_, hb⟩
    cases hq : bit c k with
    | true => rfl
    | false =>
      unfold shownF at hm
      rw [hq, if_neg Bool.false_ne_true] at hm
      exact absurd ((S.nu k hk).2.2 d hm) (by simpa using hn)
  · rintro ⟨k, hk, hc', hb⟩
    obtain ⟨d, e, _, hg, _⟩ := S.pl k hk
    have hd : d ∈ (cat (shownF P N c) x).cps.toList := mem_cat.mpr ⟨k, hk, hb, by unfold shownF; rw [hc', if_pos rfl, e]; exact List.mem_singleton.mpr rfl⟩
    refine ⟨?_, List.all_eq_false.mpr ⟨d, hd, by rw [hg]; exact Bool.false_ne_true⟩⟩
    cases hq : (cat (shownF P N c) x).cps.toList with
    | nil => rw [hq] at hd; exact absurd hd List.not_mem_nil
    | cons _ _ => rfl
theorem cat_ok {c x : Nat} : ∀ d ∈ (cat (markedF O P c) x).cps.toList, d < 0x110000 := by
  intro d hd
  obtain ⟨k, hk, hb, hm⟩ := mem_cat.mp hd
  unfold markedF at hm
  split at hm
  · exact S.vo k hk d hm
  · exact S.vp k hk d hm
theorem shown_ok {c x : Nat} : ∀ d ∈ (cat (shownF P N c) x).cps.toList, d ≠ 46 ∧ d ≠ 10 := by
  intro d hd
  obtain ⟨k, hk, hb, hm⟩ := mem_cat.mp hd
  unfold shownF at hm
  split at hm
  · obtain ⟨d', e, _, _, h1, h2⟩ := S.pl k hk
    rw [e] at hm
    rw [List.mem_singleton.mp hm]; exact ⟨h1, h2⟩
  · have := (S.nu k hk).2.2 d hm
    constructor <;> (rintro rfl; exact absurd this (by decide))
theorem marked_len {c k : Nat} (hk : k < 4) : (markedF O P c k).length ≤ 3 := by
  unfold markedF Str.length
  split
  · exact (S.ob k hk).2
  · obtain ⟨d, e, _⟩ := S.pl k hk; rw [e]; exact (show (1:Nat) ≤ 3 by decide)
theorem shown_len {c k : Nat} (hk : k < 4) : (shownF P N c k).length ≤ 3 := by
  unfold shownF Str.length
  split
  · obtain ⟨d, e, _⟩ := S.pl k hk; rw [e]; exact (show (1:Nat) ≤ 3 by decide)
  · exact (S.nu k hk).1
end
theorem sum_le {f : Nat → Str} {b : Nat} : ∀ {l : List Nat}, (∀ k ∈ l, (f k).length ≤ b) → ((l.map f).map (·.length)).sum ≤ l.length * b
  | [], _ => Nat.zero_le _
  | k :: r, h => by
    have := sum_le (l := r) fun j hj => h j (List.mem_cons_of_mem _ hj)
    have h1 := h k List.mem_cons_self
    simp only [List.map_cons, List.sum_cons, List.length_cons, Nat.succ_mul]
    omega
theorem places_lt {x k : Nat} (h : k ∈ places x) : k < 4 := List.mem_range.mp (List.mem_filter.mp h).1
theorem places_len (x : Nat) : (places x).length ≤ 4 := Nat.le_trans (List.length_filter_le ..) (by simp)
theorem sum_len_flat : ∀ {l : List Str}, (Str.join (Str.ofString "") l).length = (l.map (·.length)).sum
  | [] => by decide
  | [x] => by simp [join_one]
  | x :: y :: r => by
    rw [join_cons_cons, Str.length_append, Str.length_append, sum_len_flat, List.map_cons, List.sum_cons, show (Str.ofString "").length = 0 by decide, Nat.add_zero]
    simp only [List.map_cons, List.sum_cons]
theorem cat_len {f : Nat → Str} {x : Nat} (h : ∀ k < 4, (f k).length ≤ 3) : (cat f x).length ≤ 12 := by
  have h1 := sum_le (f := f) (b := 3) (l := places x) fun k hk => h k (places_lt hk)
  have h2 := places_len x
  have : (places x).length * 3 ≤ 4 * 3 := Nat.mul_le_mul_right _ h2
  unfold cat Txt.join
  rw [StrLaws.glued_eq_join, sum_len_flat]
  omega
theorem cat_room {f : Nat → Str} {x : Nat} (h : ∀ k < 4, (f k).length ≤ 3) : (((places x).map f).map (·.length)).sum + ((places x).map f).length * 64 ≤ 16777216 := by
  have h1 := sum_le (f := f) (b := 3) (l := places x) fun k hk => h k (places_lt hk)
  have h2 := places_len x
  rw [List.length_map]
  have : (places x).length * 3 ≤ 4 * 3 := Nat.mul_le_mul_right _ h2
  omega
end Mine
end
section
open PySem PySem.W PyProof.Rows PySem.Calls
namespace Mine
theorem list_cell {h : Heap} {T c : Addr} {xs : Array Value} {v : Option Value} (x : h.IsList T xs) (y : h.IsCell c v) : T ≠ c := by
  rintro rfl
  obtain ⟨o, e, _, n, d⟩ := x
  obtain ⟨o', e', d'⟩ := y
  rw [e] at e'; cases e'; rw [d] at d'; cases d'
theorem list_ns {h : Heap} {T c : Addr} {xs : Array Value} {v : Str → Option Value} (x : h.IsList T xs) (y : h.Ns c v) : T ≠ c := by
  rintro rfl
  obtain ⟨o, e, _, n, d⟩ := x
  obtain ⟨o', es, ep, e', d', _⟩ := y
  rw [e] at e'; cases e'; rw [d] at d'; cases d'
theorem tup_cell {h : Heap} {T c : Addr} {xs : Array Value} {v : Option Value} (x : h.IsTuple T xs) (y : h.IsCell c v) : T ≠ c := by
  rintro rfl
  obtain ⟨o, e, _, n, d⟩ := x
  obtain ⟨o', e', d'⟩ := y
  rw [e] at e'; cases e'; rw [d] at d'; cases d'
theorem tup_ns {h : Heap} {T c : Addr} {xs : Array Value} {v : Str → Option Value} (x : h.IsTuple T xs) (y : h.Ns c v) : T ≠ c := by
  rintro rfl
  obtain ⟨o, e, _, n, d⟩ := x
  obtain ⟨o', es, ep, e', d', _⟩ := y
  rw [e] at e'; cases e'; rw [d] at d'; cases d'
theorem tup_list {h : Heap} {T c : Addr} {xs ys : Array Value} (x : h.IsTuple T xs) (y : h.PlainList c ys) : T ≠ c := by
  rintro rfl
  obtain ⟨o, e, k, n, d⟩ := x
  obtain ⟨n', e'⟩ := y
  rw [e] at e'; cases e'; injection k with k; exact absurd k (by decide)
theorem neA {L : Addr} {i j : Nat} (h : i ≠ j) : L + i ≠ L + j := fun q => h (Nat.add_left_cancel q)
theorem neL {L : Addr} {i : Nat} (h : i ≠ 0) : L ≠ L + i := fun q => h (Nat.add_left_cancel (q.symm.trans (Nat.add_zero L).symm))
/-- the names, the cells and the list that a turn changes -/
structure Stt (L M : Addr) (h g : Heap) (m : Str → Option Value) (cv : Nat → Option Value) (ys : Array Value) : Prop where
  kk : ∀ b o, b ≠ L → (∀ i : Nat, 4 ≤ i → i < 8 → b ≠ L + i) → b ≠ M → h.get? b = some o → g.get? b = some o
  nL : g.Ns L m
  cs : ∀ i : Nat, 4 ≤ i → i < 8 → g.IsCell (L + i) (cv i)
  pM : g.PlainList M ys
namespace Stt
variable {L M : Addr} {h g g' : Heap} {m m' : Str → Option Value} {cv : Nat → Option Value} {ys ys' : Array Value}
theorem ext (x : Stt L M h g m cv ys) (k : Ext g g') : Stt L M h g' m cv ys where
  kk := fun b o n1 n2 n3 e => k b o (x.kk b o n1 n2 n3 e)
  nL := x.nL.keeps k
  cs := fun i h1 h2 => (x.cs i h1 h2).keeps k
  pM := x.pM.at fun o e => k M o e
theorem set (x : Stt L M h g m cv ys) {i : Nat} {v : Value} (h1 : 4 ≤ i) (h2 : i < 8) (hs : Heap.SameBut (L + i) g g') (c : g'.IsCell (L + i) (some v)) : Stt L M h g' m (fun j => if j = i then some v else cv j) ys where
  kk := fun b o n1 n2 n3 e => hs.extBut b o (n2 i h1 h2) (x.kk b o n1 n2 n3 e)
  nL := x.nL.sameBut hs (neL (by omega))
  cs := fun j g1 g2 => by
    by_cases q : j = i
    · subst q; simp only [if_pos]; exact c
    · simp only [if_neg q]; exact (x.cs j g1 g2).sameBut hs (neA q)
  pM := x.pM.at fun o e => hs.extBut M o (list_cell x.pM.isList (x.cs i h1 h2)) e
theorem setL (x : Stt L M h g m cv ys) (k : ∀ b o, b ≠ L → g.get? b = some o → g'.get? b = some o) (n : g'.Ns L m') : Stt L M h g' m' cv ys where
  kk := fun b o n1 n2 n3 e => k b o n1 (x.kk b o n1 n2 n3 e)
  nL := n
  cs := fun i h1 h2 => by
    have hi : i ≠ 0 := by omega
    obtain ⟨o, e, d⟩ := x.cs i h1 h2
    exact ⟨o, k _ o (Ne.symm (neL hi)) e, d⟩
  pM := x.pM.at fun o e => k M o (list_ns x.pM.isList x.nL) e
theorem setM (x : Stt L M h g m cv ys) (hs : Heap.SameBut M g g') (p : g'.PlainList M ys') : Stt L M h g' m cv ys' where
  kk := fun b o n1 n2 n3 e => hs.extBut b o n3 (x.kk b o n1 n2 n3 e)
  nL := x.nL.sameBut hs (Ne.symm (list_ns x.pM.isList x.nL))
  cs := fun i h1 h2 => (x.cs i h1 h2).sameBut hs (Ne.symm (list_cell x.pM.isList (x.cs i h1 h2)))
  pM := p
theorem extB {B : Heap} (x : Stt L M h g m cv ys) (k : Ext B h) (nb : B.get? L = none) (nc : ∀ i : Nat, 4 ≤ i → i < 8 → B.get? (L + i) = none) (nM : B.get? M = none) : Ext B g := fun b o e => by
  have no : ∀ {c}, B.get? c = none → b ≠ c := fun q r => by rw [r, q] at e; cases e
  exact x.kk b o (no nb) (fun i h1 h2 => no (nc i h1 h2)) (no nM) (k b o e)
end Stt
/-- all that stands in a heap but one thing, as a list -/
def others (h : Heap) (L : Addr) : List (Addr × Obj) := (List.range h.objs.size).filterMap fun a => if a = L then none else (h.get? a).map fun o => (a, o)
theorem others_mem {h : Heap} {L b : Addr} {o : Obj} (hb : b ≠ L) (e : h.get? b = some o) : (b, o) ∈ others h L :=
  List.mem_filterMap.mpr ⟨b, List.mem_range.mpr (Heap.lt_size e), by rw [if_neg hb, e]; rfl⟩
theorem empty_get (a : Addr) : ({} : Heap).get? a = none := by
  unfold Heap.get?
  simp
theorem others_news {h : Heap} {L : Addr} : News {} L h (others h L) := by
  intro p hp
  obtain ⟨a, _, e⟩ := List.mem_filterMap.mp hp
  by_cases q : a = L
  · rw [if_pos q] at e; cases e
  · rw [if_neg q] at e
    obtain ⟨o, e1, rfl⟩ := Option.map_eq_some_iff.mp e
    exact ⟨e1, q, empty_get a⟩
section
variable {prog : Program} {w : World} {A : Around} {E : Value → Shared → Prop} {s : Shared} {Q : Value → Shared → Prop}
/-- a list taken so many times: all but the names' dict stays, and the names mean what they meant -/
theorem mul_plain {l L : Addr} {m : Str → Option Value} {items : Array Value} {k : Nat} {x : Int} {u : Tok} (hL : s.heap.Ns L m) (hl : s.heap.get? l = some { cls := .type "list", dict := none, data := .seq items k, slots := #[] })
    (hlo : -(2 ^ 63 : Int) ≤ x) (hhi : x < 2 ^ 63) (hsz : items.size * x.toNat ≤ 2 ^ 24)
    (h : ∀ D h', (∀ b o, b ≠ L → s.heap.get? b = some o → h'.get? b = some o) → h'.Ns L m → h'.IsList D (List.foldl (fun x1 x2 => x1 ++ x2) #[] (List.replicate (if items.isEmpty = true then 0 else x.toNat) items)) → Q (.ref D) { s with heap := h' }) :
    wpAny (model prog w) A (binaryOp .Mult (.ref l) (.int x u)) Q E s :=
  mul_list (h₀ := {}) ⟨hL, fun b o e => (no_some (empty_get b) e).elim, Nat.zero_le _⟩ others_news hl hlo hhi hsz fun h' F' N' =>
    h _ _ (fun b o hb e => (N' (b, o) (List.mem_cons_of_mem _ (others_mem hb e))).1) F'.ns ⟨_, (N' _ List.mem_cons_self).1, rfl, _, rfl⟩
end
section
variable {prog : Program} {w : World} {A : Around} {E : Value → Shared → Prop} {s : Shared} {value slice : Expr} {Q : Value → Shared → Prop}
/-- an item of a list -/
theorem item_at {l : Addr} {items : Array Value} {i : Int} {k : Nat} {u : Tok} {x : Value} (hl : s.heap.IsList l items) (hi : i = (k : Int)) (hk : k < 1000) (hx : items[k]? = some x) (h : Q x s)
    (hs : subscripted slice false (.ref l) (.int i u) = operate [.ref l, .int i u] (getItem (.ref l) (.int i u)) := by with_unfolding_all rfl) :
    wpAny (model prog w) A (subscriptTail value slice (.ref l) (.int i u)) Q E s := by
  subst hi
  exact tail_any hl.typeIs slot_list_getitem.lookup (wpAny_getItem_list hl (by omega) (by omega) (x := x) (by simpa using hx) h) hs
end
/-- a list of four truths -/
def BoolL (h : Heap) (a : Addr) (f : Nat → Bool) : Prop := ∃ vs : Array Value, h.IsList a vs ∧ ∀ k, k < 4 → vs[k]? = some (.bool (f k))
theorem BoolL.at {h h' : Heap} {a : Addr} {f : Nat → Bool} (x : BoolL h a f) (k : ∀ o, h.get? a = some o → h'.get? a = some o) : BoolL h' a f := by
  obtain ⟨vs, ⟨o, e, r⟩, g⟩ := x
  exact ⟨vs, ⟨o, k o e, r⟩, g⟩
theorem BoolL.list {h : Heap} {a : Addr} {f : Nat → Bool} (x : BoolL h a f) : ∃ vs, h.IsList a vs := let ⟨vs, l, _⟩ := x; ⟨vs, l⟩
theorem StrL.list {h : Heap} {a : Addr} {f : Nat → Str} (x : StrL h a f) : ∃ vs : List Value, h.IsList a vs.toArray := let ⟨vs, l, _⟩ := x; ⟨vs, l⟩
theorem StrL.item {h : Heap} {a : Addr} {f : Nat → Str} (x : StrL h a f) {k : Nat} (hk : k < 4) : ∃ vs : Array Value, h.IsList a vs ∧ ∃ t, vs[k]? = some (.str (f k) t) := by
  obtain ⟨vs, l, _, g⟩ := x
  obtain ⟨t, e⟩ := g k hk
  exact ⟨vs.toArray, l, t, by simpa using e⟩
/-- a row of truths, as it comes -/
theorem boolL_of {h : Heap} {D : Addr} {ys : Array Value} {f : Nat → Bool} (hl : h.PlainList D ys) (p : Paired (fun (k : Nat) (y : Value) => y = .bool (f k)) (List.filter (fun _ => true) (List.range 4)) ys.toList) : BoolL h D f := by
  rw [filter_true] at p
  exact ⟨ys, hl.isList, fun k hk => by obtain ⟨y, e, rfl⟩ := paired_range p hk; simpa using e⟩
theorem strL_of {h : Heap} {D : Addr} {ys : Array Value} {f : Nat → Str} (hl : h.PlainList D ys) (p : Paired (fun (k : Nat) (y : Value) => ∃ t, y = .str (f k) t) (List.filter (fun _ => true) (List.range 4)) ys.toList) : StrL h D f := by
  rw [filter_true] at p
  refine ⟨ys.toList, by simpa using hl.isList, by rw [← p.length, List.length_range], fun k hk => ?_⟩
  obtain ⟨y, e, t, rfl⟩ := paired_range p hk
  exact ⟨t, e⟩
namespace Stt
variable {L M : Addr} {h g g' : Heap} {m m' : Str → Option Value} {cv : Nat → Option Value} {ys ys' : Array Value}
theorem move {wr : List Addr} (x : Stt L M h g m cv ys) (k : ∀ b o, b ∉ wr → g.get? b = some o → g'.get? b = some o) (nL : L ∉ wr) (nc : ∀ i : Nat, 4 ≤ i → i < 8 → L + i ∉ wr) (nM : M ∉ wr) : Stt L M g' g' m cv ys where
  kk := fun _ _ _ _ _ e => e
  nL := x.nL.at' fun o e => k L o nL e
  cs := fun i h1 h2 => let ⟨o, e, d⟩ := x.cs i h1 h2; ⟨o, k _ o (nc i h1 h2) e, d⟩
  pM := x.pM.at fun o e => k M o nM e
end Stt
/-- the joined letters of a row -/
theorem paired_strs {f : Nat → Str} {l : List Nat} {ys : List Value} (h : Paired (fun (j : Nat) (y : Value) => ∃ t, y = .str (f (l.getD j 0)) t) (List.filter (fun _ => true) (List.range l.length)) ys) : StrsAre ys (l.map f) := by
  rw [filter_true] at h
  have h2 : ∀ {l' : List Nat} {ys : List Value}, Paired (fun (j : Nat) (y : Value) => ∃ t, y = .str (f (l.getD j 0)) t) l' ys → StrsAre ys (l'.map fun j => f (l.getD j 0)) := by
    intro l' ys h
    induction h with
    | nil => exact .nil
    | cons e r ih => obtain ⟨t, rfl⟩ := e; exact .cons _ t ih
  have h3 := h2 h
  have e := filter_range_get 0 (fun _ => true) l
  rw [filter_true, filter_true] at e
  rw [← e, List.map_map]
  exact h3
theorem host_cat (y : Str) : Str.ofString "w." ++ y = hostS y.cps.toList := by
  have e : (Str.ofString "w." ++ y).cps.toList = (hostS y.cps.toList).cps.toList := by
    rw [cps_toList_append, show (Str.ofString "w.").cps.toList = [119, 46] by decide]
    rfl
  have e2 : (Str.ofString "w." ++ y).cps = (hostS y.cps.toList).cps := Array.toList_inj.mp e
  calc Str.ofString "w." ++ y = ⟨(Str.ofString "w." ++ y).cps⟩ := rfl
    _ = ⟨(hostS y.cps.toList).cps⟩ := by rw [e2]
    _ = hostS y.cps.toList := rfl
theorem paired_map {α β γ : Type} {F : β → γ → Prop} {f : α → β} : ∀ {l : List α} {ys : List γ}, Paired (fun x y => F (f x) y) l ys → Paired F (l.map f) ys
  | _, _, .nil => .nil
  | _, _, .cons h r => .cons h (paired_map r)
theorem paired_getD {γ : Type} {F : Nat → γ → Prop} {fam : List Nat} {ys : List γ} (h : Paired (fun (j : Nat) y => F (fam.getD j 0) y) (List.range fam.length) ys) : Paired F fam ys := by
  have e := filter_range_get 0 (fun _ => true) fam
  rw [filter_true, filter_true] at e
  rw [← e]
  exact paired_map h
theorem paired_imp {α γ : Type} {F F' : α → γ → Prop} : ∀ {l : List α} {ys : List γ}, Paired F l ys → (∀ x y, x ∈ l → F x y → F' x y) → Paired F' l ys
  | _, _, .nil, _ => .nil
  | _, _, .cons h r, k => .cons (k _ _ List.mem_cons_self h) (paired_imp r fun x y hx => k x y (List.mem_cons_of_mem _ hx))
def nm (x : Nat) : Str := Str.ofString (toString (x : Int))
theorem nm_ok : ∀ x < 16, (nm x ≠ Str.ofString "") ∧ ∀ c ∈ (nm x).cps.toList, c < 0x110000 := by decide +kernel
/-- the row told of a member -/
def rowF (O P : Nat → Str) (c x : Nat) : Str × Str := if meets c x then (Str.ofString "", Str.ofString "") else (nm x, cat (markedF O P c) x)
theorem rowF_ok {O P N : Nat → Str} (S : SgOK O P N) {c : Nat} {fam : List Nat} (h16 : ∀ x ∈ fam, x < 16) : ∀ p ∈ fam.map (rowF O P c), (∀ d ∈ p.1.cps.toList, d < 0x110000) ∧ ∀ d ∈ p.2.cps.toList, d < 0x110000 := by
  intro p hp
  obtain ⟨x, hx, rfl⟩ := List.mem_map.mp hp
  have e0 : (Str.ofString "").cps.toList = [] := by decide
  unfold rowF
  split
  · constructor <;> (intro d hd; rw [e0] at hd; exact absurd hd List.not_mem_nil)
  · exact ⟨(nm_ok x (h16 x hx)).2, cat_ok S⟩
theorem rowF_all {O P : Nat → Str} {c : Nat} : ∀ {fam : List Nat}, (∀ x ∈ fam, x < 16) → decide (fam.map (rowF O P c) = List.replicate fam.length (Str.ofString "", Str.ofString "")) = fam.all (meets c)
  | [], _ => rfl
  | x :: r, h => by
    have ih := rowF_all (O := O) (P := P) (c := c) (fam := r) fun y hy => h y (List.mem_cons_of_mem _ hy)
    have hx := h x List.mem_cons_self
    rw [List.map_cons, List.length_cons, List.replicate_succ, List.all_cons, ← ih, Bool.eq_iff_iff, decide_eq_true_eq, List.cons.injEq, Bool.and_eq_true, decide_eq_true_eq]
    refine and_congr ?_ Iff.rfl
    unfold rowF
    split
    · rename_i hm; simp [hm]
    · rename_i hm
      constructor
      · intro e
        exact absurd (congrArg Prod.fst e) (nm_ok x hx).1
      · intro e; exact absurd e hm
theorem rep_ok (n : Nat) : ∀ p ∈ List.replicate n (Str.ofString "", Str.ofString ""), (∀ d ∈ p.1.cps.toList, d < 0x110000) ∧ ∀ d ∈ p.2.cps.toList, d < 0x110000 := by
  intro p hp
  have e0 : (Str.ofString "").cps.toList = [] := by decide
  rw [(List.mem_replicate.mp hp).2]
  constructor <;> (intro d hd; rw [e0] at hd; exact absurd hd List.not_mem_nil)
theorem rep_rows {h : Heap} {T : Addr} {t u : Tok} (hT : h.IsTuple T #[.str (Str.ofString "") t, .str (Str.ofString "") u]) : ∀ n, RowsAre h (List.replicate n (Str.ofString "", Str.ofString "")) (List.replicate n (.ref T))
  | 0 => .nil
  | n + 1 => by
    rw [List.replicate_succ, List.replicate_succ]
    exact .cons ⟨T, t, u, rfl, hT⟩ (rep_rows hT n)
theorem foldl_rep (v : Value) : ∀ (n : Nat) (acc : Array Value), List.foldl (fun x1 x2 => x1 ++ x2) acc (List.replicate n #[v]) = acc ++ (List.replicate n v).toArray
  | 0, acc => by simp
  | n + 1, acc => by
    rw [List.replicate_succ, List.foldl_cons, foldl_rep v n, List.replicate_succ]
    apply Array.toList_inj.mp
    simp
section
variable {prog : Program} {w : World} {A : Around} {E : Value → Shared → Prop} {s : Shared} {Q : Value → Shared → Prop}
theorem mul_one {l L : Addr} {m : Str → Option Value} {v : Value} {k n : Nat} {u : Tok} (hL : s.heap.Ns L m) (hl : s.heap.get? l = some { cls := .type "list", dict := none, data := .seq #[v] k, slots := #[] }) (hn : n ≤ 1000)
    (h : ∀ D h', (∀ b o, b ≠ L → s.heap.get? b = some o → h'.get? b = some o) → h'.Ns L m → h'.IsList D (List.replicate n v).toArray → Q (.ref D) { s with heap := h' }) :
    wpAny (model prog w) A (binaryOp .Mult (.ref l) (.int (n : Int) u)) Q E s := by
  refine mul_plain hL hl (by omega) (by omega) (by simp; omega) fun D h' k1 k2 k3 => h D h' k1 k2 ?_
  rw [show (if (#[v] : Array Value).isEmpty = true then 0 else ((n : Nat) : Int).toNat) = n from by simp, foldl_rep, Array.empty_append] at k3
  exact k3
end
theorem RowsAre.ext {h h' : Heap} {l : List (Str × Str)} {vs : List Value} (r : RowsAre h l vs) (k : ∀ T xs, h.IsTuple T xs → h'.IsTuple T xs) : RowsAre h' l vs :=
  paired_imp r fun p y _ ⟨T, t, u, e, hT⟩ => ⟨T, t, u, e, k _ _ hT⟩
theorem ints_snoc {n : Int} {t : Tok} : ∀ {ys : List Value} {ns : List Int}, IntsAre ys ns → IntsAre (ys ++ [.int n t]) (ns ++ [n])
  | _, _, .nil => .cons _ t .nil
  | _, _, .cons a u r => .cons a u (ints_snoc r)
end Mine
end
section
open PySem PySem.W PyProof.Rows PySem.Calls
namespace Mine
theorem skol {β : Type} [Inhabited β] {n : Nat} {F : Nat → β → Prop} (h : ∀ k, k < n → ∃ y, F k y) : ∃ f : Nat → β, ∀ k, k < n → F k (f k) := by
  have h' : ∀ k, ∃ y, k < n → F k y := fun k => by
    by_cases hk : k < n
    · obtain ⟨y, e⟩ := h k hk; exact ⟨y, fun _ => e⟩
    · exact ⟨default, fun q => absurd q hk⟩
  exact ⟨fun k => Classical.choose (h' k), fun k => Classical.choose_spec (h' k)⟩
/-- a member: its name and its letters -/
def Mem (h : Heap) (x : Nat) (T : Addr) : Prop := ∃ b t, h.IsTuple T #[.str (nm x) t, .ref b] ∧ ∃ vs : List Value, h.IsList b vs.toArray ∧ IntsAre vs (asInts (places x))
theorem Mem.ext {h h' : Heap} {x : Nat} {T : Addr} (m : Mem h x T) (k : Ext h h') : Mem h' x T := by
  obtain ⟨b, t, ⟨o, e, r⟩, vs, ⟨o', e', r'⟩, i⟩ := m
  exact ⟨b, t, ⟨o, k _ _ e, r⟩, vs, ⟨o', k _ _ e', r'⟩, i⟩
theorem hide_tup {h : Heap} {mu : List Addr} {T : Addr} {xs : Array Value} (x : h.IsTuple T xs) (n : T ∉ mu) : (hideAll h mu).IsTuple T xs := by
  obtain ⟨o, e, r⟩ := x; exact ⟨o, hideAll_get _ e n, r⟩
theorem hide_list {h : Heap} {mu : List Addr} {T : Addr} {xs : Array Value} (x : h.IsList T xs) (n : T ∉ mu) : (hideAll h mu).IsList T xs := by
  obtain ⟨o, e, r⟩ := x; exact ⟨o, hideAll_get _ e n, r⟩
theorem hide_cell {h : Heap} {mu : List Addr} {T : Addr} {v : Option Value} (x : h.IsCell T v) (n : T ∉ mu) : (hideAll h mu).IsCell T v := by
  obtain ⟨o, e, r⟩ := x; exact ⟨o, hideAll_get _ e n, r⟩
theorem ext_same {H h h' : Heap} {mu : List Addr} {c : Addr} (k : Ext (hideAll H mu) h) (hs : Heap.SameBut c h h') (hc : c ∈ mu) : Ext (hideAll H mu) h' :=
  fun b o e => hs.extBut b o (fun q => by rw [q, hideAll_none _ hc] at e; cases e) (k b o e)
theorem bit_int (x : Nat) {i : Nat} : (Builtin.bitAnd (x : Int) ((2 : Int) ^ (0 + (i : Int)).toNat) != 0) = bit x i := by
  have e1 : (0 + (i : Int)).toNat = i := by omega
  have e2 : (2 : Int) ^ i = ((2 ^ i : Nat) : Int) := by rw [Int.natCast_pow]; rfl
  rw [e1, e2, bitAnd_nat]
  unfold bit
  rw [Bool.eq_iff_iff, bne_iff_ne, bne_iff_ne]; omega
theorem pw2_small {i : Nat} (hi : i < 4) : ((2 : Int) ^ (0 + (i : Int)).toNat).natAbs < 1073741824 := by
  have e1 : (0 + (i : Int)).toNat = i := by omega
  rw [e1]
  have : i = 0 ∨ i = 1 ∨ i = 2 ∨ i = 3 := by omega
  rcases this with rfl | rfl | rfl | rfl <;> decide
theorem log_small {x : Nat} (h : x < 16) : (x : Int).natAbs.log2 < 1920 := by
  rw [Int.natAbs_natCast]
  exact (show ∀ x < 16, x.log2 < 1920 by decide +kernel) x h
section
variable {w : World} {A : Around} {E : Value → Shared → Prop} {s : Shared} {Q : Value → Shared → Prop}
set_option maxHeartbeats 8000000 in
theorem call_meeting (G : Gr w s.heap) (R : Rm A 8 200) {a : Addr} {v : Value} {vs : List Value} {fam : List Nat} {O P N : Nat → Str} (hl : s.heap.IsList a vs.toArray) (hi : IntsAre vs (asInts fam)) (h16 : ∀ x ∈ fam, x < 16) (hsz : fam.length ≤ 64)
    (S : SgOK O P N) (hv : SgAt s.heap v O P N)
    (hQ : ∀ D h' tk' ys, Ext s.heap h' → h'.PlainList D ys → s.heap.get? D = none → IntsAre ys.toList (asInts ((List.range 16).filter fun c => fam.all (meets c))) → Q (.ref D) { s with heap := h', toks := tk' }) :
    wpAny (model PR w) A (call (.ref 65) [.ref a, v]) Q E s := by
  refine wpAny_call (call_cells_ret (binds := [(Str.ofString "family", .ref a), (Str.ofString "signs", v)]) (by have := R.dep; omega) (G.kin 65 _ rfl) rfl G.nolim (codeRec_of G.kin (by rfl)) rfl (kindsX (by rfl) _) (fun h₁ tk F X => ?_))
  have hns := F.ns
  have kF : Ext s.heap h₁ := F.keep
  have hLs : s.heap.get? s.heap.objs.size = none := fresh_of (Nat.le_refl _)
  have c1 := X.cell (Str.ofString "opened") _ rfl
  have c2 := X.cell (Str.ofString "plain") _ rfl
  have c3 := X.cell (Str.ofString "numeric") _ rfl
  have c4 := X.cell (Str.ofString "chosen") _ rfl
  have c5 := X.cell (Str.ofString "inside") _ rfl
  have c6 := X.cell (Str.ofString "marked") _ rfl
  have c7 := X.cell (Str.ofString "shown") _ rfl
  have hs : ∀ i, s.heap.get? (s.heap.objs.size + i) = none := fun i => fresh_of (Nat.le_add_right _ _)
  have hLlt := hns.lt
  clear X F
  generalize s.heap.objs.size = L at hns hLs c1 c2 c3 c4 c5 c6 c7 hs hLlt ⊢
  obtain ⟨T, o, p, q, rfl, hT, sO, sP, sN⟩ := hv
  -- opened, plain, numeric = signs
  have hT₁ : IsTup h₁ T #[.ref o, .ref p, .ref q] := by obtain ⟨o, e, r⟩ := hT; exact ⟨o, kF _ _ e, r⟩
  refine wpAny_execs_cons (Assign_Tuple (ldL hns rfl (assign_Tuple_tuple R.hd hT₁ rfl rfl fun h₂ x₂ => ?_)))
  dsimp only at x₂
  have kc : ∀ {b v}, h₁.IsCell b v → h₂.IsCell b v := fun {b v} ⟨o, e, d⟩ => ⟨o, x₂ b o (Nat.ne_of_lt (Heap.lt_size e)) e, d⟩
  have nL₂ := hns.extBut x₂ (Nat.ne_of_lt hLlt)
  replace c1 := kc c1
  replace c2 := kc c2
  replace c3 := kc c3
  replace c4 := kc c4
  replace c5 := kc c5
  replace c6 := kc c6
  replace c7 := kc c7
  refine assignInOrder_cons (wpAny_assign_Name (wpAny_storeName_cell rfl rfl rfl c1 fun h₃ d1 x₃ => ?_))
  refine assignInOrder_cons (wpAny_assign_Name (wpAny_storeName_cell rfl rfl rfl (c2.sameBut x₃ (neA (L := L) (i := 2) (j := 1) (by decide))) fun h₄ d2 x₄ => ?_))
  refine assignInOrder_cons (wpAny_assign_Name (wpAny_storeName_cell rfl rfl rfl ((c3.sameBut x₃ (neA (L := L) (i := 3) (j := 1) (by decide))).sameBut x₄ (neA (L := L) (i := 3) (j := 2) (by decide))) fun h₅ d3 x₅ => ?_))
  refine assignInOrder_nil ?_
  dsimp only at x₃ x₄ x₅ ⊢
  have xx : ∀ b o, b ≠ h₁.objs.size → b ≠ L + 1 → b ≠ L + 2 → b ≠ L + 3 → h₁.get? b = some o → h₅.get? b = some o := fun b o n1 n2 n3 n4 e => x₅.extBut b o n4 (x₄.extBut b o n3 (x₃.extBut b o n2 (x₂ b o n1 e)))
  replace d2 : h₅.IsCell (L + 2) (some (.ref p)) := d2.sameBut x₅ (neA (L := L) (i := 2) (j := 3) (by decide))
  replace d1 : h₅.IsCell (L + 1) (some (.ref o)) := (d1.sameBut x₄ (neA (L := L) (i := 1) (j := 2) (by decide))).sameBut x₅ (neA (L := L) (i := 1) (j := 3) (by decide))
  replace d3 : h₅.IsCell (L + 3) (some (.ref q)) := d3
  have kc5 : ∀ {i v}, i ≠ 1 → i ≠ 2 → i ≠ 3 → h₂.IsCell (L + i) v → h₅.IsCell (L + i) v := fun n1 n2 n3 c => ((c.sameBut x₃ (neA n1)).sameBut x₄ (neA n2)).sameBut x₅ (neA n3)
  replace c4 := kc5 (i := 4) (by decide) (by decide) (by decide) c4
  replace c5 := kc5 (i := 5) (by decide) (by decide) (by decide) c5
  replace c6 := kc5 (i := 6) (by decide) (by decide) (by decide) c6
  replace c7 := kc5 (i := 7) (by decide) (by decide) (by decide) c7
  have nL₅ := ((nL₂.sameBut x₃ (neL (L := L) (i := 1) (by decide))).sameBut x₄ (neL (L := L) (i := 2) (by decide))).sameBut x₅ (neL (L := L) (i := 3) (by decide))
  have k₅ : Ext s.heap h₅ := fun b o e => xx b o (Nat.ne_of_lt (Heap.lt_size (kF b o e))) (fun q => no_some (hs 1) (q ▸ e)) (fun q => no_some (hs 2) (q ▸ e)) (fun q => no_some (hs 3) (q ▸ e)) (kF b o e)
  clear xx kc5 kc x₂ x₃ x₄ x₅ nL₂ c1 c2 c3 hT₁ hT hns hLlt kF
  -- members
  have e₂ : Ext (hideAll h₅ [L]) h₅ := fun b o e => of_hideAll _ e
  refine wpAny_execs_cons (lc_assign (h₀ := hideAll h₅ [L]) (n := vs.toArray.size) (P := PL vs.toArray) (fun _ => true) (fun h i y => ∃ T, y = .ref T ∧ Mem h (fam.getD i 0) T)
    (lay_cell (x := Str.ofString "x") (cl := []) (fun n => rfl) (fun g => rfl)) (by rfl) (by rfl) rfl (by decide) rfl rfl (by have := hi.length; rw [asInts_length] at this; rw [sizeLine_eq, List.size_toArray]; omega) ?_)
  have kH₅ : Ext s.heap (hideAll h₅ [L]) := fun b o e => hideAll_get _ (k₅ b o e) (fun q => no_some hLs ((List.mem_singleton.mp q) ▸ e))
  have G₅ := G.keeps kH₅
  have hl₅ : h₅.IsList a vs.toArray := by obtain ⟨o, e, r⟩ := hl; exact ⟨o, k₅ _ _ e, r⟩
  refine ldL nL₅ rfl (itr_list R.hd hl₅ Keeps.refl fun it s₂ hIt => ⟨_, _, _, e₂, nL₅, hIt, fun C => ⟨_, tgt_cell (fun i v => vs.toArray[i]? = some v) (fun i v h hp => hp) rfl rfl rfl, ?_, ?_⟩, ?_⟩)
  · rintro i s₃ E' hi _ k₃
    exact wpAny_tests_nil ⟨rfl, Keeps.refl⟩
  · rintro i ⟨g₃, ga, gd, gt, go⟩ E' hi' _ ⟨v, hv, ⟨m, hC⟩, hx⟩ k₃
    dsimp only at hC hx k₃
    have hif : i < fam.length := by have := hi.length; rw [asInts_length] at this; rw [List.size_toArray] at hi'; omega
    obtain ⟨tv, hg⟩ := asInts_get hi hif
    have hv' : v = .int ((fam.getD i 0 : Nat) : Int) tv := Option.some.inj ((hv : vs.toArray[i]? = some v).symm.trans (by rw [List.getElem?_toArray]; exact hg))
    subst hv'
    have hx16 : fam.getD i 0 < 16 := by rw [List.getD_eq_getElem?_getD, List.getElem?_eq_getElem hif]; exact h16 _ (List.getElem_mem hif)
    dsimp only
    generalize fam.getD i 0 = x at hx hx16 ⊢
    have G₃ : Gr w g₃ := G₅.keeps k₃
    refine Tuple_ (spliced_more ?_)
    refine Call_ (ldB G₃ (by rfl) PyProof.Rows.boot_str (by decide) ?_)
    refine PyProof.Rows.callWith_type1 (spliced_more (ldCell rfl hx (spliced_none (PySem.P.str_of_int (log_small hx16) ?_))))
    refine spliced_more ?_
    refine lc_eval (h₀ := g₃) (n := 4) (P := PR' 0) (bit x) (fun h k y => ∃ t, y = .int (k : Int) t) (lay_none (cl := [(Str.ofString "x", C + 1)]) (by rfl)) (by rfl) rfl (by decide) (by decide) ?_
    refine eval_range G₃ fun r h₂ tk₂ t u v hr k₂ => ?_
    refine itr_range (n := 4) R.hd hr (by decide) (by decide) Keeps.refl fun it s₂ hIt => ⟨_, _, k₂, hIt, fun C' => ⟨_, tgt_local (fun i v => ∃ t, v = .int (0 + (i : Int)) t) (fun i v h hp => hp) rfl rfl rfl, ?_, ?_⟩, ?_⟩
    · rintro j s₄ E₄ hj ⟨v, m, ⟨t', rfl⟩, hn, hm⟩ k₄
      refine wpAny_tests_one (wpAny_isTrue_Compare1 (wpAny_BinOp (ldCell rfl (hx.keeps k₄) (wpAny_BinOp (wpAny_Constant_int (ldL hn hm (pow_int_small (by omega) (by omega) (by decide) ?_)))))))
      refine PyProof.Rows.and_int (wpAny_Constant_int (PyProof.Rows.ne_int (wpAny_truthy_bool ?_)))
      rw [bit_int]
      exact ⟨rfl, ⟨_, _, rfl, fun _ _ e => e⟩⟩
    · rintro j s₄ E₄ hj hp ⟨v, m, ⟨t', rfl⟩, hn, hm⟩ k₄
      exact ldL hn hm ⟨Keeps.refl, fun _ _ _ => ⟨t', by simp⟩⟩
    · intro D h' tk' ys hD hl' hG k'
      refine spliced_none (wpAny_newObj_type ?_ (by size_fits))
      dsimp only at hD hG k' ⊢
      have kg : Ext g₃ h' := Ext.trans k₂ k'
      refine ⟨⟨_, _, rfl, Ext.trans kg (Ext.push _)⟩, fun h3 e0 e1 => ⟨_, rfl, D, _, ⟨_, e1 _ _ (size_le_of kg (Nat.le_refl _)) (Heap.get?_push_size _ rfl), rfl, _, rfl⟩, ys.toList, ?_, paired_asInts (hG h' kg fun b o _ e => e)⟩⟩
      obtain ⟨n, e⟩ := hl'
      exact ⟨_, e1 _ _ (none_of k₂ hD) (Heap.get?_push_of_some _ e), rfl, n, by simp⟩
  · intro Dm h₆ tk₆ ms hD hl₆ hG nL₆ kL
    clear hIt
    dsimp only [Shared.heap] at hD hG nL₆ kL ⊢
    have hlive : ∃ o, h₅.get? L = some o := by obtain ⟨o, _, _, e, _⟩ := nL₅; exact ⟨o, e⟩
    have hgm := hG h₆ (fun b o e => kL b o (fun q => by subst q; rw [hideAll_none _ List.mem_cons_self] at e; cases e) (e₂ b o e)) fun b o _ e => e
    rw [filter_true] at hgm
    have hDL : Dm ≠ L := fun q => by subst q; obtain ⟨o, e⟩ := hlive; exact no_some hD e
    have kc6 : ∀ {b v}, b ≠ L → h₅.IsCell b v → h₆.IsCell b v := fun nb ⟨o, e, d⟩ => ⟨o, kL _ o nb e, d⟩
    replace d1 := kc6 (Ne.symm (neL (by decide))) d1
    replace d2 := kc6 (Ne.symm (neL (by decide))) d2
    replace d3 := kc6 (Ne.symm (neL (by decide))) d3
    replace c4 := kc6 (Ne.symm (neL (by decide))) c4
    replace c5 := kc6 (Ne.symm (neL (by decide))) c5
    replace c6 := kc6 (Ne.symm (neL (by decide))) c6
    replace c7 := kc6 (Ne.symm (neL (by decide))) c7
    have k₆ : Ext s.heap h₆ := fun b o e => kL b o (fun q => no_some hLs (q ▸ e)) (k₅ b o e)
    clear hG kL kc6 nL₅ k₅ e₂ kH₅ G₅ hl₅ hlive hD
    -- meeting = []
    refine wpAny_execs_cons (wpAny_Assign_Name (List_ (spliced_nil (wpAny_newObj_type (wpAny_storeName_local rfl (Heap.Ns.keeps nL₆ (Ext.push _)) (fun h₇ nL₇ x₇ => ?_) rfl) (by size_fits)))))
    dsimp only at nL₇ x₇ ⊢
    have hMn : h₆.get? h₆.objs.size = none := fresh_of (Nat.le_refl _)
    have hML : h₆.objs.size ≠ L := Nat.ne_of_gt nL₆.lt
    have pM : h₇.PlainList h₆.objs.size #[] := ⟨_, x₇.extBut _ _ hML (Heap.get?_push_size _ rfl)⟩
    have k₇ : ∀ b o, b ≠ L → h₆.get? b = some o → h₇.get? b = some o := fun b o nb e => x₇.extBut b o nb (Heap.get?_push_of_some _ e)
    generalize h₆.objs.size = M at hMn hML pM nL₇ x₇ ⊢
    have hMc : ∀ {c v}, h₆.IsCell c v → M ≠ c := fun ⟨o, e, _⟩ q => no_some hMn (q ▸ e)
    have hM4 := hMc c4
    have hM5 := hMc c5
    have hM6 := hMc c6
    have hM7 := hMc c7
    have gB : ∀ b o, b ∉ [L, L + 4, L + 5, L + 6, L + 7, M] → h₆.get? b = some o → (hideAll h₇ [L, L + 4, L + 5, L + 6, L + 7, M]).get? b = some o := fun b o nb e => hideAll_get _ (k₇ b o (fun q => nb (q ▸ List.mem_cons_self)) e) nb
    have nin : ∀ b : Addr, b ≠ L → b ≠ L + 4 → b ≠ L + 5 → b ≠ L + 6 → b ≠ L + 7 → b ≠ M → b ∉ [L, L + 4, L + 5, L + 6, L + 7, M] := fun b n1 n2 n3 n4 n5 n6 q => by
      simp only [List.mem_cons, List.not_mem_nil, or_false] at q
      rcases q with q | q | q | q | q | q
      · exact n1 q
      · exact n2 q
      · exact n3 q
      · exact n4 q
      · exact n5 q
      · exact n6 q
    have kB : Ext s.heap (hideAll h₇ [L, L + 4, L + 5, L + 6, L + 7, M]) := fun b o e => gB b o (nin b (fun q => no_some hLs (q ▸ e)) (fun q => no_some (hs 4) (q ▸ e)) (fun q => no_some (hs 5) (q ▸ e)) (fun q => no_some (hs 6) (q ▸ e)) (fun q => no_some (hs 7) (q ▸ e)) (fun q => no_some hMn (q ▸ k₆ b o e))) (k₆ b o e)
    have GB := G.keeps kB
    have lB : (hideAll h₇ [L, L + 4, L + 5, L + 6, L + 7, M]).IsList a vs.toArray := by obtain ⟨o, e, r⟩ := hl; exact ⟨o, kB _ _ e, r⟩
    have tin : ∀ {T xs}, h₆.IsTuple T xs → T ∉ [L, L + 4, L + 5, L + 6, L + 7, M] := fun t => nin _ (tup_ns t nL₆) (tup_cell t c4) (tup_cell t c5) (tup_cell t c6) (tup_cell t c7) (fun q => by obtain ⟨o, e, _⟩ := t; exact no_some hMn (q ▸ e))
    have lin : ∀ {T xs}, h₆.IsList T xs → T ∉ [L, L + 4, L + 5, L + 6, L + 7, M] := fun t => nin _ (list_ns t nL₆) (list_cell t c4) (list_cell t c5) (list_cell t c6) (list_cell t c7) (fun q => by obtain ⟨o, e, _⟩ := t; exact no_some hMn (q ▸ e))
    have mB : (hideAll h₇ [L, L + 4, L + 5, L + 6, L + 7, M]).IsList Dm ms := by have l := hl₆.isList; have n := lin l; obtain ⟨o, e, r⟩ := l; exact ⟨o, gB _ _ n e, r⟩
    have hlen : vs.toArray.size = fam.length := by have := hi.length; rw [asInts_length] at this; rw [List.size_toArray]; omega
    have memB : ∀ j, j < fam.length → ∃ T, ms[j]? = some (.ref T) ∧ Mem (hideAll h₇ [L, L + 4, L + 5, L + 6, L + 7, M]) (fam.getD j 0) T := fun j hj => by
      obtain ⟨y, e, T, rfl, b, t, t1, xs, l1, i1⟩ := paired_range hgm (by rw [hlen]; exact hj)
      refine ⟨T, by simpa using e, b, t, ?_, xs, ?_, i1⟩
      · have n := tin t1; obtain ⟨o, e, r⟩ := t1; exact ⟨o, gB _ _ n e, r⟩
      · have n := lin l1; obtain ⟨o, e, r⟩ := l1; exact ⟨o, gB _ _ n e, r⟩
    have hms : ms.size = fam.length := by rw [← Array.length_toList, ← hgm.length, List.length_range, hlen]
    have cin : ∀ {i v}, i ≠ 0 → i ≠ 4 → i ≠ 5 → i ≠ 6 → i ≠ 7 → h₆.IsCell (L + i) v → (hideAll h₇ [L, L + 4, L + 5, L + 6, L + 7, M]).IsCell (L + i) v := fun n0 n4 n5 n6 n7 c => by
      have n := nin _ (Ne.symm (neL n0)) (neA n4) (neA n5) (neA n6) (neA n7) (Ne.symm (hMc c))
      obtain ⟨o, e, r⟩ := c; exact ⟨o, gB _ _ n e, r⟩
    replace d1 := cin (by decide) (by decide) (by decide) (by decide) (by decide) d1
    replace d2 := cin (by decide) (by decide) (by decide) (by decide) (by decide) d2
    replace d3 := cin (by decide) (by decide) (by decide) (by decide) (by decide) d3
    have c67 : ∀ {i v}, i ≠ 0 → h₆.IsCell (L + i) v → h₇.IsCell (L + i) v := fun n0 c => by
      obtain ⟨o, e, r⟩ := c; exact ⟨o, k₇ _ _ (Ne.symm (neL n0)) e, r⟩
    replace c4 := c67 (by decide) c4
    replace c5 := c67 (by decide) c5
    replace c6 := c67 (by decide) c6
    replace c7 := c67 (by decide) c7
    replace sO := sO.ext (kB _)
    replace sP := sP.ext (kB _)
    replace sN := sN.ext (kB _)
    have eB : Ext (hideAll h₇ [L, L + 4, L + 5, L + 6, L + 7, M]) h₇ := fun b o e => of_hideAll _ e
    have hMs : s.heap.get? M = none := none_of k₆ hMn
    clear c67 cin hgm tin lin gB hMc k₇ x₇ hMn k₆ hl₆ nL₆ hs
    have bL : (hideAll h₇ [L, L + 4, L + 5, L + 6, L + 7, M]).get? L = none := hideAll_none _ List.mem_cons_self
    have bc : ∀ i : Nat, 4 ≤ i → i < 8 → (hideAll h₇ [L, L + 4, L + 5, L + 6, L + 7, M]).get? (L + i) = none := fun i h1 h2 => hideAll_none _ (by
      have : i = 4 ∨ i = 5 ∨ i = 6 ∨ i = 7 := by omega
      rcases this with rfl | rfl | rfl | rfl <;> simp)
    have bM : (hideAll h₇ [L, L + 4, L + 5, L + 6, L + 7, M]).get? M = none := hideAll_none _ (by simp)
    have X₇ : Stt L M h₇ h₇ _ (fun _ => none) #[] := ⟨fun _ _ _ _ _ e => e, nL₇, fun i h1 h2 => (by
      have : i = 4 ∨ i = 5 ∨ i = 6 ∨ i = 7 := by omega
      rcases this with rfl | rfl | rfl | rfl
      · exact c4
      · exact c5
      · exact c6
      · exact c7), pM⟩
    generalize hideAll h₇ [L, L + 4, L + 5, L + 6, L + 7, M] = B at *
    clear nin c4 c5 c6 c7 pM nL₇ hM4 hM5 hM6 hM7 hML hDL
    obtain ⟨Fm, hFm⟩ := skol (β := Addr × Addr × Tok) (n := fam.length) (F := fun j z => ms[j]? = some (.ref z.1) ∧ B.IsTuple z.1 #[.str (nm (fam.getD j 0)) z.2.2, .ref z.2.1] ∧ ∃ vs : List Value, B.IsList z.2.1 vs.toArray ∧ IntsAre vs (asInts (places (fam.getD j 0)))) fun j hj => by
      obtain ⟨T, e, b, t, h1, h2⟩ := memB j hj
      exact ⟨(T, b, t), e, h1, h2⟩
    clear memB
    -- for chosen in range(16)
    refine wpAny_execs_cons (for_itr (eval_range (GB.keeps eB) fun r h₈ tk₈ t₈ u₈ v₈ hr k₈ => ?_))
    refine itr_range (n := 16) R.hd hr (by decide) (by decide) Keeps.refl fun it s₂ hIt => ⟨_, _, _, _, hIt, fun fp wr St hsub hframe hlive hfp hwr hft hst => ?_⟩
    obtain ⟨⟨H, tk₂, rfl, kH⟩, _⟩ := hIt
    dsimp only at kH hwr hft hfp hst ⊢
    have X₈ := X₇.ext k₈
    have XH := X₈.ext kH
    have eB₈ : Ext B h₈ := Ext.trans eB k₈
    have nf : ∀ b o, h₈.get? b = some o → b ∉ fp := fun b o e hb => by
      rcases hft b hb with q | q
      · exact no_some q e
      · exact absurd q List.not_mem_nil
    have fL : L ∉ fp := by obtain ⟨o, _, _, e, _⟩ := X₈.nL; exact nf _ _ e
    have fc : ∀ i : Nat, 4 ≤ i → i < 8 → L + i ∉ fp := fun i h1 h2 => by obtain ⟨o, e, _⟩ := X₈.cs i h1 h2; exact nf _ _ e
    have fM : M ∉ fp := by obtain ⟨n, e⟩ := X₈.pM; exact nf _ _ e
    have nw : ∀ {b}, b ∉ fp → b ∉ wr := fun n q => n (hsub _ q)
    have fB : ∀ b o, B.get? b = some o → b ∉ wr := fun b o e => nw (nf b o (eB₈ b o e))
    refine ⟨fun i h => St i h ∧ ∃ m cv ys, Ext B h ∧ Stt L M h h m cv ys ∧ m (Str.ofString "family") = some (.ref a) ∧ m (Str.ofString "members") = some (.ref Dm) ∧ m (Str.ofString "meeting") = some (.ref M) ∧ ys.size ≤ i ∧
        IntsAre ys.toList (asInts ((List.range i).filter fun c => fam.all (meets c))),
      ⟨hst, _, _, #[], Ext.trans eB₈ kH, ⟨fun _ _ _ _ _ e => e, XH.nL, XH.cs, XH.pM⟩, ?_, ?_, ?_, Nat.zero_le _, .nil⟩, fun i h x => x.1, ?_, ?_⟩
    · exact Eq.trans (if_neg (by decide)) (Eq.trans (if_neg (by decide)) rfl)
    · exact Eq.trans (if_neg (by decide)) (if_pos rfl)
    · exact if_pos rfl
    · rintro i h tk v h₃ tk₃ E' hi16 ⟨_, m, cv, ys, eBh, xh, mf, mm, mg, hys, hin⟩ ⟨t, rfl⟩ hst₃ hk₃
      have x₃ := xh.move hk₃ (nw fL) (fun i h1 h2 => nw (fc i h1 h2)) (nw fM)
      have eB₃ : Ext B h₃ := fun b o e => hk₃ b o (fB b o e) (eBh b o e)
      clear xh eBh hk₃
      rw [Int.zero_add]
      refine wpAny_assign_Name (wpAny_storeName_cell rfl rfl rfl (x₃.cs 4 (by decide) (by decide)) fun h₄ d₄ s₄ => ?_)
      have x₄ := x₃.set (by decide) (by decide) s₄ d₄
      clear d₄ s₄
      have toB : ∀ {m cv ys g}, Stt L M h₃ g m cv ys → Ext B g := fun x => x.extB eB₃ bL bc bM
      have k4 : h₄.IsCell (L + 4) (some (.int (i : Int) t)) := x₄.cs 4 (by decide) (by decide)
      -- inside
      refine wpAny_execs_cons (wpAny_Assign_Name (lc_eval (h₀ := h₄) (n := 4) (P := PR' 0) (fun _ => true) (fun h k y => y = .bool (bit i k)) (lay_none (cl := [(Str.ofString "chosen", L + 4)]) (by rfl)) (by rfl) rfl (by decide) (by decide) ?_))
      refine eval_range (GB.keeps (toB x₄)) fun r h₅ tk₅ t₅ u₅ v₅ hr₅ k₅ => ?_
      refine itr_range (n := 4) R.hd hr₅ (by decide) (by decide) Keeps.refl fun it s₂ hIt => ⟨_, _, k₅, hIt, fun C => ⟨_, tgt_local (fun i v => ∃ t, v = .int (0 + (i : Int)) t) (fun i v h hp => hp) rfl rfl rfl, ?_, ?_⟩, ?_⟩
      · rintro j s₃ E' _ _ _
        exact wpAny_tests_nil ⟨rfl, Keeps.refl⟩
      · rintro j s₃ E' hj _ ⟨v, mm, ⟨t', rfl⟩, hn, hm⟩ k₃
        refine wpAny_Compare1 (wpAny_BinOp (ldCell rfl (k4.keeps k₃) (wpAny_BinOp (wpAny_Constant_int (ldL hn hm (pow_int_small (by omega) (by omega) (by decide) ?_))))))
        refine PyProof.Rows.and_int (wpAny_Constant_int (PyProof.Rows.ne_int ?_))
        rw [bit_int]
        exact ⟨⟨_, _, rfl, fun _ _ e => e⟩, fun _ _ _ => rfl⟩
      · intro D₁ h₆ tk₆ ys₆ hD₆ hl₆ hG₆ k₆
        dsimp only at hG₆ k₆ hl₆
        have bD := boolL_of hl₆ (hG₆ h₆ (Ext.trans k₅ k₆) fun b o _ e => e)
        have x₆ := x₄.ext (Ext.trans k₅ k₆)
        clear hG₆ hIt hl₆ hr₅ hD₆
        refine wpAny_storeName_cell rfl rfl rfl (x₆.cs 5 (by decide) (by decide)) fun h₇ d₇ s₇ => ?_
        have x₇ := x₆.set (by decide) (by decide) s₇ d₇
        replace bD := bD.at fun o e => s₇.extBut _ _ (by obtain ⟨_, l⟩ := bD.list; exact list_cell l (x₆.cs 5 (by decide) (by decide))) e
        clear x₆ x₄ k4 k₅ k₆ d₇ s₇
        dsimp only
        have k5 : h₇.IsCell (L + 5) (some (.ref D₁)) := x₇.cs 5 (by decide) (by decide)
        -- marked
        have q1 : h₇.IsCell (L + 1) (some (.ref o)) := d1.keeps (toB x₇)
        have q2 : h₇.IsCell (L + 2) (some (.ref p)) := d2.keeps (toB x₇)
        have rO : StrL h₇ o O := sO.ext (toB x₇ _)
        have rP : StrL h₇ p P := sP.ext (toB x₇ _)
        refine wpAny_execs_cons (wpAny_Assign_Name (lc_eval (h₀ := h₇) (n := 4) (P := PR' 0) (fun _ => true) (fun h k y => ∃ t, y = .str (markedF O P i k) t) (lay_none (cl := [(Str.ofString "plain", L + 2), (Str.ofString "opened", L + 1), (Str.ofString "inside", L + 5)]) (by rfl)) (by rfl) rfl (by decide) (by decide) ?_))
        refine eval_range (GB.keeps (toB x₇)) fun r h₈ tk₈ t₈ u₈ v₈ hr₈ k₈ => ?_
        refine itr_range (n := 4) R.hd hr₈ (by decide) (by decide) Keeps.refl fun it s₂ hIt => ⟨_, _, k₈, hIt, fun C => ⟨_, tgt_local (fun i v => ∃ t, v = .int (0 + (i : Int)) t) (fun i v h hp => hp) rfl rfl rfl, ?_, ?_⟩, ?_⟩
        · rintro j s₃ E' _ _ _
          exact wpAny_tests_nil ⟨rfl, Keeps.refl⟩
        · rintro j s₃ E' hj _ ⟨v, mm, ⟨t', rfl⟩, hn, hm⟩ k₃
          obtain ⟨ws, lw, gw⟩ := bD
          refine IfExp_ (isTrue_plain (Subscript_ (ldCell rfl (k5.keeps k₃) (ldL hn hm (item_at (isList_at lw (k₃ _)) (Int.zero_add _) (by omega) (gw j hj) (wpAny_truthy_bool ?_))))))
          cases hb : bit i j with
          | true =>
            rw [if_pos rfl]
            obtain ⟨zs, lz, t2, gz⟩ := rO.item hj
            refine Subscript_ (ldCell rfl (q1.keeps k₃) (ldL hn hm (item_at (isList_at lz (k₃ _)) (Int.zero_add _) (by omega) gz ?_)))
            exact ⟨Keeps.refl, fun _ _ _ => ⟨t2, by unfold markedF; rw [hb, if_pos rfl]⟩⟩
          | false =>
            rw [if_neg Bool.false_ne_true]
            obtain ⟨zs, lz, t2, gz⟩ := rP.item hj
            refine Subscript_ (ldCell rfl (q2.keeps k₃) (ldL hn hm (item_at (isList_at lz (k₃ _)) (Int.zero_add _) (by omega) gz ?_)))
            exact ⟨Keeps.refl, fun _ _ _ => ⟨t2, by unfold markedF; rw [hb, if_neg Bool.false_ne_true]⟩⟩
        · intro D₂ h₉ tk₉ ys₉ hD₉ hl₉ hG₉ k₉
          dsimp only at hG₉ k₉ hl₉
          have mD := strL_of hl₉ (hG₉ h₉ (Ext.trans k₈ k₉) fun b o _ e => e)
          have x₉ := x₇.ext (Ext.trans k₈ k₉)
          replace bD := bD.at fun o e => Ext.trans k₈ k₉ _ o e
          clear hG₉ hIt hl₉ hr₈ hD₉ q1 q2 rO rP k5 x₇
          refine wpAny_storeName_cell rfl rfl rfl (x₉.cs 6 (by decide) (by decide)) fun h₁₀ d₁₀ s₁₀ => ?_
          have x₁₀ := x₉.set (by decide) (by decide) s₁₀ d₁₀
          replace bD := bD.at fun o e => s₁₀.extBut _ _ (by obtain ⟨_, l⟩ := bD.list; exact list_cell l (x₉.cs 6 (by decide) (by decide))) e
          replace mD := mD.at fun o e => s₁₀.extBut _ _ (by obtain ⟨_, l⟩ := mD.list; exact list_cell l (x₉.cs 6 (by decide) (by decide))) e
          clear x₉ k₈ k₉ d₁₀ s₁₀
          dsimp only
          have k5 : h₁₀.IsCell (L + 5) (some (.ref D₁)) := x₁₀.cs 5 (by decide) (by decide)
          -- shown
          have q3 : h₁₀.IsCell (L + 3) (some (.ref q)) := d3.keeps (toB x₁₀)
          have q2 : h₁₀.IsCell (L + 2) (some (.ref p)) := d2.keeps (toB x₁₀)
          have rN : StrL h₁₀ q N := sN.ext (toB x₁₀ _)
          have rP : StrL h₁₀ p P := sP.ext (toB x₁₀ _)
          refine wpAny_execs_cons (wpAny_Assign_Name (lc_eval (h₀ := h₁₀) (n := 4) (P := PR' 0) (fun _ => true) (fun h k y => ∃ t, y = .str (shownF P N i k) t) (lay_none (cl := [(Str.ofString "plain", L + 2), (Str.ofString "numeric", L + 3), (Str.ofString "inside", L + 5)]) (by rfl)) (by rfl) rfl (by decide) (by decide) ?_))
          refine eval_range (GB.keeps (toB x₁₀)) fun r h₁₁ tk₁₁ t₁₁ u₁₁ v₁₁ hr₁₁ k₁₁ => ?_
          refine itr_range (n := 4) R.hd hr₁₁ (by decide) (by decide) Keeps.refl fun it s₂ hIt => ⟨_, _, k₁₁, hIt, fun C => ⟨_, tgt_local (fun i v => ∃ t, v = .int (0 + (i : Int)) t) (fun i v h hp => hp) rfl rfl rfl, ?_, ?_⟩, ?_⟩
          · rintro j s₃ E' _ _ _
            exact wpAny_tests_nil ⟨rfl, Keeps.refl⟩
          · rintro j s₃ E' hj _ ⟨v, mm, ⟨t', rfl⟩, hn, hm⟩ k₃
            obtain ⟨ws, lw, gw⟩ := bD
            refine IfExp_ (isTrue_plain (Subscript_ (ldCell rfl (k5.keeps k₃) (ldL hn hm (item_at (isList_at lw (k₃ _)) (Int.zero_add _) (by omega) (gw j hj) (wpAny_truthy_bool ?_))))))
            cases hb : bit i j with
            | true =>
              rw [if_pos rfl]
              obtain ⟨zs, lz, t2, gz⟩ := rP.item hj
              refine Subscript_ (ldCell rfl (q2.keeps k₃) (ldL hn hm (item_at (isList_at lz (k₃ _)) (Int.zero_add _) (by omega) gz ?_)))
              exact ⟨Keeps.refl, fun _ _ _ => ⟨t2, by unfold shownF; rw [hb, if_pos rfl]⟩⟩
            | false =>
              rw [if_neg Bool.false_ne_true]
              obtain ⟨zs, lz, t2, gz⟩ := rN.item hj
              refine Subscript_ (ldCell rfl (q3.keeps k₃) (ldL hn hm (item_at (isList_at lz (k₃ _)) (Int.zero_add _) (by omega) gz ?_)))
              exact ⟨Keeps.refl, fun _ _ _ => ⟨t2, by unfold shownF; rw [hb, if_neg Bool.false_ne_true]⟩⟩
          · intro D₃ h₁₂ tk₁₂ ys₁₂ hD₁₂ hl₁₂ hG₁₂ k₁₂
            dsimp only at hG₁₂ k₁₂ hl₁₂
            have nD := strL_of hl₁₂ (hG₁₂ h₁₂ (Ext.trans k₁₁ k₁₂) fun b o _ e => e)
            have x₁₂ := x₁₀.ext (Ext.trans k₁₁ k₁₂)
            replace mD := mD.at fun o e => Ext.trans k₁₁ k₁₂ _ o e
            clear hG₁₂ hIt hl₁₂ hr₁₁ hD₁₂ q3 q2 rN rP k5 x₁₀ bD
            refine wpAny_storeName_cell rfl rfl rfl (x₁₂.cs 7 (by decide) (by decide)) fun h₁₃ d₁₃ s₁₃ => ?_
            have x₁₃ := x₁₂.set (by decide) (by decide) s₁₃ d₁₃
            replace mD := mD.at fun o e => s₁₃.extBut _ _ (by obtain ⟨_, l⟩ := mD.list; exact list_cell l (x₁₂.cs 7 (by decide) (by decide))) e
            replace nD := nD.at fun o e => s₁₃.extBut _ _ (by obtain ⟨_, l⟩ := nD.list; exact list_cell l (x₁₂.cs 7 (by decide) (by decide))) e
            clear x₁₂ k₁₁ k₁₂ d₁₃ s₁₃
            dsimp only
            have k6 : h₁₃.IsCell (L + 6) (some (.ref D₂)) := x₁₃.cs 6 (by decide) (by decide)
            have k7 : h₁₃.IsCell (L + 7) (some (.ref D₃)) := x₁₃.cs 7 (by decide) (by decide)
            have k4 : h₁₃.IsCell (L + 4) (some (.int (i : Int) t)) := x₁₃.cs 4 (by decide) (by decide)
            -- book
            have eH : Ext (hideAll h₁₃ [L]) h₁₃ := fun b o e => of_hideAll _ e
            have nH : ∀ b o, b ≠ L → h₁₃.get? b = some o → (hideAll h₁₃ [L]).get? b = some o := fun b o n e => hideAll_get _ e (fun q => n (List.mem_singleton.mp q))
            have BH : Ext B (hideAll h₁₃ [L]) := fun b o e => nH b o (fun q => by rw [q, bL] at e; cases e) (toB x₁₃ b o e)
            have k6H : (hideAll h₁₃ [L]).IsCell (L + 6) (some (.ref D₂)) := by obtain ⟨o, e, r⟩ := k6; exact ⟨o, nH _ _ (Ne.symm (neL (by decide))) e, r⟩
            have mDH : StrL (hideAll h₁₃ [L]) D₂ (markedF O P i) := mD.at fun o e => nH _ _ (by obtain ⟨_, l⟩ := mD.list; exact list_ns l x₁₃.nL) e
            have mB₁ : h₁₃.IsList Dm ms := isList_at mB (toB x₁₃ _)
            refine wpAny_execs_cons (lc_assign (h₀ := hideAll h₁₃ [L]) (n := ms.size) (P := PP fun i p => p = (Value.str (nm (fam.getD i 0)) (Fm i).2.2, Value.ref (Fm i).2.1)) (fun _ => true) (fun h j y => ∃ T t u, y = .ref T ∧ h.IsTuple T #[.str (nm (fam.getD j 0)) t, .str (cat (markedF O P i) (fam.getD j 0)) u])
              (lay_none (cl := [(Str.ofString "marked", L + 6)]) (by rfl)) (by rfl) (by rfl) rfl (by decide) rfl rfl (by rw [sizeLine_eq]; omega) ?_)
            refine ldL x₁₃.nL mm (itr_tuples (Ts := fun j => (Fm j).1) (vals := fun i => (Value.str (nm (fam.getD i 0)) (Fm i).2.2, Value.ref (Fm i).2.1)) R.hd mB₁ (fun j hj => ⟨(hFm j (hms ▸ hj)).1, (hFm j (hms ▸ hj)).2.1.at fun o e => toB x₁₃ _ o e⟩) Keeps.refl fun it s₂ hIt => ⟨_, _, _, eH, x₁₃.nL, hIt, fun C => ⟨_, tgt_pair R.hd (by decide) rfl rfl rfl rfl, ?_, ?_⟩, ?_⟩)
            · rintro j s₃ E' _ _ _
              exact wpAny_tests_nil ⟨rfl, Keeps.refl⟩
            · rintro j ⟨g₃, ga, gd, gt, go⟩ E' hj _ ⟨na, pb, m₃, hv, hn, hm1, hm2⟩ k₃
              have hv1 : na = Value.str (nm (fam.getD j 0)) (Fm j).2.2 := congrArg Prod.fst hv
              have hv2 : pb = Value.ref (Fm j).2.1 := congrArg Prod.snd hv
              subst hv1 hv2
              obtain ⟨_, _, ws, lw, iw⟩ := hFm j (hms ▸ hj)
              dsimp only at hn k₃
              have lw₃ : g₃.IsList (Fm j).2.1 ws.toArray := isList_at lw fun o e => k₃ _ o (BH _ o e)
              have hwl : ws.toArray.size = (places (fam.getD j 0)).length := by have := iw.length; rw [asInts_length] at this; rw [List.size_toArray]; omega
              refine Tuple_ (spliced_more (ldL hn hm1 (spliced_more ?_)))
              refine wpAny_Call_method (by rfl) (by rfl) (by rfl) F.plainAttrs_str F.slot_str_join F.type_str_join (Constant_str ⟨typeIs_str _ _ _, (fun a e => by cases e), callWith_method1 (spliced_cons ?_)⟩)
              dsimp only
              generalize fam.getD j 0 = x at iw hwl ⊢
              refine lc_eval (h₀ := g₃) (n := ws.toArray.size) (P := PL ws.toArray) (fun _ => true) (fun h k y => ∃ t, y = .str (markedF O P i ((places x).getD k 0)) t) (lay_none (cl := [(Str.ofString "marked", L + 6)]) (by rfl)) (by rfl) rfl (by decide) (by rw [hwl, sizeLine_eq]; have := places_len x; omega) ?_
              refine ldL hn hm2 (itr_list R.hd lw₃ Keeps.refl fun it s₂ hIt => ⟨_, _, Ext.refl, hIt, fun C' => ⟨_, tgt_local (fun i v => ws.toArray[i]? = some v) (fun i v h hp => hp) rfl rfl rfl, ?_, ?_⟩, ?_⟩)
              · rintro k s₄ E₄ _ _ _
                exact wpAny_tests_nil ⟨rfl, Keeps.refl⟩
              · rintro k s₄ E₄ hk _ ⟨v, m₄, hv, hn₄, hm₄⟩ k₄
                have hk' : k < (places x).length := hwl ▸ hk
                obtain ⟨tv, hg⟩ := asInts_get iw hk'
                have hv' : v = .int (((places x).getD k 0 : Nat) : Int) tv := Option.some.inj ((hv : ws.toArray[k]? = some v).symm.trans (by rw [List.getElem?_toArray]; exact hg))
                subst hv'
                have hp4 : (places x).getD k 0 < 4 := by rw [List.getD_eq_getElem?_getD, List.getElem?_eq_getElem hk']; exact places_lt (List.getElem_mem hk')
                obtain ⟨zs, lz, t2, gz⟩ := mDH.item hp4
                refine Subscript_ (ldCell rfl ((k6H.keeps k₃).keeps k₄) (ldL hn₄ hm₄ (item_at (isList_at (isList_at lz (k₃ _)) (k₄ _)) rfl (by omega) gz ?_)))
                exact ⟨Keeps.refl, fun _ _ _ => ⟨t2, rfl⟩⟩
              · intro D h' tk' ys hD hl' hG k'
                dsimp only at hG k' hD hl'
                rw [hwl] at hG
                refine spliced_nil (join_listC hl'.isList (paired_strs (hG h' k' fun b o _ e => e)) (by decide) (cat_room fun k hk => marked_len S hk) fun t' tk => ?_)
                refine spliced_none (wpAny_newObj_type ?_ (by size_fits))
                dsimp only
                exact ⟨⟨_, _, rfl, Ext.trans k' (Ext.push _)⟩, fun h3 e0 e1 => ⟨_, _, _, rfl, ⟨_, e1 _ _ (size_le_of k' (Nat.le_refl _)) (Heap.get?_push_size _ rfl), rfl, _, rfl⟩⟩⟩
            · intro Db h₁₄ tk₁₄ bs hD₁₄ hl₁₄ hG₁₄ hn₁₄ k₁₄
              clear hIt
              dsimp only at hG₁₄ hl₁₄ hn₁₄ k₁₄ ⊢
              have hN₁₃ : (hideAll h₁₃ [L]).get? L = none := hideAll_none _ List.mem_cons_self
              have hgb := hG₁₄ h₁₄ (fun b o e => k₁₄ b o (fun q => no_some hN₁₃ (by rw [q] at e; exact e)) (eH b o e)) fun b o _ e => e
              rw [filter_true] at hgb
              have x₁₄ := x₁₃.setL k₁₄ hn₁₄
              have hbs : bs.size = fam.length := by rw [← Array.length_toList, ← hgb.length, List.length_range, hms]
              obtain ⟨Fb, hFb⟩ := skol (β := Addr × Tok × Tok) (n := fam.length) (F := fun j z => bs[j]? = some (.ref z.1) ∧ h₁₄.IsTuple z.1 #[.str (nm (fam.getD j 0)) z.2.1, .str (cat (markedF O P i) (fam.getD j 0)) z.2.2]) fun j hj => by
                obtain ⟨y, e, T, t, u, rfl, hT⟩ := paired_range hgb (by rw [hms]; exact hj)
                exact ⟨(T, t, u), by simpa using e, hT⟩
              have lb : h₁₄.IsList Db bs := hl₁₄.isList
              have nD₁₄ : StrL h₁₄ D₃ (shownF P N i) := nD.at fun o e => k₁₄ _ _ (by obtain ⟨_, l⟩ := nD.list; exact list_ns l x₁₃.nL) e
              have k7' : h₁₄.IsCell (L + 7) (some (.ref D₃)) := x₁₄.cs 7 (by decide) (by decide)
              clear hG₁₄ hgb eH nH BH k6H mDH hl₁₄ k₁₄ k6 k7 mD nD k4 mB₁ x₁₃ hn₁₄ hD₁₄
              -- hosts
              have eH : Ext (hideAll h₁₄ [L]) h₁₄ := fun b o e => of_hideAll _ e
              have nH : ∀ b o, b ≠ L → h₁₄.get? b = some o → (hideAll h₁₄ [L]).get? b = some o := fun b o n e => hideAll_get _ e (fun q => n (List.mem_singleton.mp q))
              have BH : Ext B (hideAll h₁₄ [L]) := fun b o e => nH b o (fun q => by rw [q, bL] at e; cases e) (toB x₁₄ b o e)
              have k7H : (hideAll h₁₄ [L]).IsCell (L + 7) (some (.ref D₃)) := by obtain ⟨o, e, r⟩ := k7'; exact ⟨o, nH _ _ (Ne.symm (neL (by decide))) e, r⟩
              have nDH : StrL (hideAll h₁₄ [L]) D₃ (shownF P N i) := nD₁₄.at fun o e => nH _ _ (by obtain ⟨_, l⟩ := nD₁₄.list; exact list_ns l x₁₄.nL) e
              have mB₁ : h₁₄.IsList Dm ms := isList_at mB (toB x₁₄ _)
              refine wpAny_execs_cons (lc_assign (h₀ := hideAll h₁₄ [L]) (n := ms.size) (P := PP fun i p => p = (Value.str (nm (fam.getD i 0)) (Fm i).2.2, Value.ref (Fm i).2.1)) (fun _ => true) (fun h j y => ∃ t, y = .str (hostS (cat (shownF P N i) (fam.getD j 0)).cps.toList) t)
                (lay_none (cl := [(Str.ofString "shown", L + 7)]) (by rfl)) (by rfl) (by rfl) rfl (by decide) rfl rfl (by rw [sizeLine_eq]; omega) ?_)
              refine ldL x₁₄.nL (Eq.trans (if_neg (by decide)) mm) (itr_tuples (Ts := fun j => (Fm j).1) (vals := fun i => (Value.str (nm (fam.getD i 0)) (Fm i).2.2, Value.ref (Fm i).2.1)) R.hd mB₁ (fun j hj => ⟨(hFm j (hms ▸ hj)).1, (hFm j (hms ▸ hj)).2.1.at fun o e => toB x₁₄ _ o e⟩) Keeps.refl fun it s₂ hIt => ⟨_, _, _, eH, x₁₄.nL, hIt, fun C => ⟨_, tgt_pair R.hd (by decide) rfl rfl rfl rfl, ?_, ?_⟩, ?_⟩)
              · rintro j s₃ E' _ _ _
                exact wpAny_tests_nil ⟨rfl, Keeps.refl⟩
              · rintro j ⟨g₃, ga, gd, gt, go⟩ E' hj _ ⟨na, pb, m₃, hv, hn, hm1, hm2⟩ k₃
                have hv1 : na = Value.str (nm (fam.getD j 0)) (Fm j).2.2 := congrArg Prod.fst hv
                have hv2 : pb = Value.ref (Fm j).2.1 := congrArg Prod.snd hv
                subst hv1 hv2
                obtain ⟨_, _, ws, lw, iw⟩ := hFm j (hms ▸ hj)
                dsimp only at hn k₃
                have lw₃ : g₃.IsList (Fm j).2.1 ws.toArray := isList_at lw fun o e => k₃ _ o (BH _ o e)
                have hwl : ws.toArray.size = (places (fam.getD j 0)).length := by have := iw.length; rw [asInts_length] at this; rw [List.size_toArray]; omega
                refine wpAny_BinOp (Constant_str ?_)
                refine wpAny_Call_method (by rfl) (by rfl) (by rfl) F.plainAttrs_str F.slot_str_join F.type_str_join (Constant_str ⟨typeIs_str _ _ _, (fun a e => by cases e), callWith_method1 (spliced_cons ?_)⟩)
                dsimp only
                generalize fam.getD j 0 = x at iw hwl ⊢
                refine lc_eval (h₀ := g₃) (n := ws.toArray.size) (P := PL ws.toArray) (fun _ => true) (fun h k y => ∃ t, y = .str (shownF P N i ((places x).getD k 0)) t) (lay_none (cl := [(Str.ofString "shown", L + 7)]) (by rfl)) (by rfl) rfl (by decide) (by rw [hwl, sizeLine_eq]; have := places_len x; omega) ?_
                refine ldL hn hm2 (itr_list R.hd lw₃ Keeps.refl fun it s₂ hIt => ⟨_, _, Ext.refl, hIt, fun C' => ⟨_, tgt_local (fun i v => ws.toArray[i]? = some v) (fun i v h hp => hp) rfl rfl rfl, ?_, ?_⟩, ?_⟩)
                · rintro k s₄ E₄ _ _ _
                  exact wpAny_tests_nil ⟨rfl, Keeps.refl⟩
                · rintro k s₄ E₄ hk _ ⟨v, m₄, hv, hn₄, hm₄⟩ k₄
                  have hk' : k < (places x).length := hwl ▸ hk
                  obtain ⟨tv, hg⟩ := asInts_get iw hk'
                  have hv' : v = .int (((places x).getD k 0 : Nat) : Int) tv := Option.some.inj ((hv : ws.toArray[k]? = some v).symm.trans (by rw [List.getElem?_toArray]; exact hg))
                  subst hv'
                  have hp4 : (places x).getD k 0 < 4 := by rw [List.getD_eq_getElem?_getD, List.getElem?_eq_getElem hk']; exact places_lt (List.getElem_mem hk')
                  obtain ⟨zs, lz, t2, gz⟩ := nDH.item hp4
                  refine Subscript_ (ldCell rfl ((k7H.keeps k₃).keeps k₄) (ldL hn₄ hm₄ (item_at (isList_at (isList_at lz (k₃ _)) (k₄ _)) rfl (by omega) gz ?_)))
                  exact ⟨Keeps.refl, fun _ _ _ => ⟨t2, rfl⟩⟩
                · intro D h' tk' ys hD hl' hG k'
                  dsimp only at hG k' hD hl'
                  rw [hwl] at hG
                  refine spliced_nil (join_listC hl'.isList (paired_strs (hG h' k' fun b o _ e => e)) (by decide) (cat_room fun k hk => shown_len S hk) fun t' tk => ?_)
                  refine SB.add (fun t3 tk3 => ?_) ?_
                  · rw [host_cat]
                    exact ⟨⟨_, _, rfl, k'⟩, fun h3 e0 e1 => ⟨_, rfl⟩⟩
                  · have hc := cat_len (f := shownF P N i) (x := x) fun k hk => shown_len S hk
                    have e2 : (Str.ofString "w.").length = 2 := by decide
                    rw [sizeLine_eq, e2]
                    unfold cat at hc
                    omega
              · intro Dh h₁₅ tk₁₅ hs₁₅ hD₁₅ hl₁₅ hG₁₅ hn₁₅ k₁₅
                clear hIt
                dsimp only at hG₁₅ hl₁₅ hn₁₅ k₁₅ ⊢
                have hN₁₄ : (hideAll h₁₄ [L]).get? L = none := hideAll_none _ List.mem_cons_self
                have hgh := hG₁₅ h₁₅ (fun b o e => k₁₅ b o (fun q => no_some hN₁₄ (by rw [q] at e; exact e)) (eH b o e)) fun b o _ e => e
                rw [filter_true] at hgh
                have x₁₅ := x₁₄.setL k₁₅ hn₁₅
                have hhs : hs₁₅.size = fam.length := by rw [← Array.length_toList, ← hgh.length, List.length_range, hms]
                have hH : ∀ j, j < fam.length → ∃ t, hs₁₅[j]? = some (.str (hostS (cat (shownF P N i) (fam.getD j 0)).cps.toList) t) := fun j hj => by
                  obtain ⟨y, e, t, rfl⟩ := paired_range hgh (by rw [hms]; exact hj)
                  exact ⟨t, by simpa using e⟩
                have lh : h₁₅.IsList Dh hs₁₅ := hl₁₅.isList
                have lb₁₅ : h₁₅.IsList Db bs := isList_at lb fun o e => k₁₅ _ _ (list_ns lb x₁₄.nL) e
                have hFb₁₅ : ∀ j, j < fam.length → bs[j]? = some (.ref (Fb j).1) ∧ h₁₅.IsTuple (Fb j).1 #[.str (nm (fam.getD j 0)) (Fb j).2.1, .str (cat (markedF O P i) (fam.getD j 0)) (Fb j).2.2] := fun j hj =>
                  ⟨(hFb j hj).1, (hFb j hj).2.at fun o e => k₁₅ _ o (tup_ns (hFb j hj).2 x₁₄.nL) e⟩
                have ht16 : ∀ j, j < fam.length → fam.getD j 0 < 16 := fun j hj => by rw [List.getD_eq_getElem?_getD, List.getElem?_eq_getElem hj]; exact h16 _ (List.getElem_mem hj)
                have G₁₅ : Gr w h₁₅ := GB.keeps (toB x₁₅)
                clear hG₁₅ hgh eH nH BH k7H nDH hl₁₅ k₁₅ k7' nD₁₄ mB₁ x₁₄ hn₁₅ hD₁₅ hFb lb
                -- told
                refine wpAny_execs_cons (wpAny_Assign_Name (Call_ (ldG G₁₅ (by rfl) ?_)))
                refine callWith_K G₁₅.kin (by rfl) (spliced_more (ldL x₁₅.nL (Eq.trans (if_neg (by decide)) (if_pos rfl)) (spliced_none ⟨G₁₅.kin, ?_⟩)))
                refine call_ppv (Ts := fun j => (Fb j).1) (nv := fun j => .str (nm (fam.getD j 0)) (Fb j).2.1) (xs := fun j => cat (markedF O P i) (fam.getD j 0)) (ts := fun j => (Fb j).2.2) G₁₅ ((Rm.deeper (d := 7) (u := 197) R).le (by decide) (by decide)) lb₁₅ (by omega) (fun j hj => hFb₁₅ j (hbs ▸ hj)) fun Dt h₁₆ tk₁₆ ts k₁₆ hl₁₆ hD₁₆ hG₁₆ => ?_
                have x₁₆ := x₁₅.ext k₁₆
                have hgt := hG₁₆ h₁₆ k₁₆ fun b o _ e => e
                refine wpAny_storeName_local rfl x₁₆.nL (fun h₁₇ n₁₇ s₁₇ => ?_) rfl
                dsimp only at n₁₇ s₁₇ ⊢
                have x₁₇ := x₁₆.setL (fun b o nb e => s₁₇.extBut b o nb e) n₁₇
                have t67 : ∀ {T xs}, h₁₆.IsTuple T xs → h₁₇.IsTuple T xs := fun {T xs} hT => hT.at fun o e => s₁₇.extBut _ o (tup_ns hT x₁₆.nL) e
                have l67 : ∀ {T xs}, h₁₆.IsList T xs → h₁₇.IsList T xs := fun {T xs} hT => isList_at hT fun o e => s₁₇.extBut _ o (list_ns hT x₁₆.nL) e
                have rT : RowsAre h₁₇ (fam.map (rowF O P i)) ts.toList := by
                  rw [hbs] at hgt
                  refine paired_map (paired_getD (F := fun x y => ∃ T t u, y = Value.ref T ∧ h₁₇.IsTuple T #[.str (rowF O P i x).1 t, .str (rowF O P i x).2 u]) (paired_imp hgt fun j y hj hy => ?_))
                  have hj' := List.mem_range.mp hj
                  have hT := (hFb₁₅ j hj').2
                  unfold RowOut at hy
                  rw [brk_cat S hi16 (ht16 j hj')] at hy
                  cases hm : meets i (fam.getD j 0) with
                  | true =>
                    rw [hm, if_pos rfl] at hy
                    have hr : rowF O P i (fam.getD j 0) = (Str.ofString "", Str.ofString "") := by unfold rowF; rw [hm, if_pos rfl]
                    rw [hr]
                    obtain ⟨T, t, u, e, hT⟩ := hy
                    exact ⟨T, t, u, e, t67 hT⟩
                  | false =>
                    rw [hm, if_neg Bool.false_ne_true] at hy
                    have hr : rowF O P i (fam.getD j 0) = (nm (fam.getD j 0), cat (markedF O P i) (fam.getD j 0)) := by unfold rowF; rw [hm, if_neg Bool.false_ne_true]
                    rw [hr]
                    exact ⟨_, _, _, hy, t67 (hT.at fun o e => k₁₆ _ o e)⟩
                have lt₁₇ : h₁₇.IsList Dt ts := l67 hl₁₆.isList
                have lh₁₇ : h₁₇.IsList Dh hs₁₅ := l67 (isList_at lh (k₁₆ _))
                have lb₁₇ : h₁₇.IsList Db bs := l67 (isList_at lb₁₅ (k₁₆ _))
                have hFb₁₇ : ∀ j, j < fam.length → bs[j]? = some (.ref (Fb j).1) ∧ h₁₇.IsTuple (Fb j).1 #[.str (nm (fam.getD j 0)) (Fb j).2.1, .str (cat (markedF O P i) (fam.getD j 0)) (Fb j).2.2] := fun j hj =>
                  ⟨(hFb₁₅ j hj).1, t67 ((hFb₁₅ j hj).2.at fun o e => k₁₆ _ o e)⟩
                have G₁₇ : Gr w h₁₇ := GB.keeps (toB x₁₇)
                clear t67 l67 hgt hG₁₆ hl₁₆ hD₁₆ n₁₇ s₁₇ x₁₆ k₁₆ hFb₁₅ lb₁₅ lh x₁₅ G₁₅
                -- if told != [...]
                refine wpAny_execs_cons (wpAny_If (wpAny_isTrue_Compare1 (ldL x₁₇.nL (if_pos rfl) ?_)))
                refine lc_eval (h₀ := h₁₇) (n := min hs₁₅.size bs.size) (P := PP fun i p => hs₁₅[i]? = some p.1 ∧ bs[i]? = some p.2) (fun _ => true) (fun h j y => ∃ T t u, y = .ref T ∧ h.IsTuple T #[.str (rowF O P i (fam.getD j 0)).1 t, .str (rowF O P i (fam.getD j 0)).2 u])
                  (lay_none (cl := []) (by rfl)) (by rfl) rfl (by decide) (by rw [hhs, hbs, sizeLine_eq]; omega) ?_
                refine Call_ (ldB G₁₇ (by rfl) boot_zip (by decide) ?_)
                refine PyProof.Rows.callWith_type1 (spliced_more (ldL x₁₇.nL (Eq.trans (if_neg (by decide)) (if_pos rfl)) (spliced_more (ldL x₁₇.nL (Eq.trans (if_neg (by decide)) (Eq.trans (if_neg (by decide)) (if_pos rfl))) (spliced_none ?_)))))
                refine itr_zip R.hd lh₁₇ lb₁₇ Keeps.refl fun it s₂ hIt => ⟨_, _, Ext.refl, hIt, fun C => ⟨_, tgt_pair R.hd (by decide) rfl rfl rfl rfl, ?_, ?_⟩, ?_⟩
                · rintro j s₃ E' _ _ _
                  exact wpAny_tests_nil ⟨rfl, Keeps.refl⟩
                · rintro j ⟨g₃, ga, gd, gt, go⟩ E' hj _ ⟨hv, pv, m₃, ⟨he, pe⟩, hn, hm1, hm2⟩ k₃
                  dsimp only at he pe hn k₃
                  have hj' : j < fam.length := by rw [hhs, hbs, Nat.min_self] at hj; exact hj
                  obtain ⟨th, eh⟩ := hH j hj'
                  have hv1 : hv = .str (hostS (cat (shownF P N i) (fam.getD j 0)).cps.toList) th := Option.some.inj (he.symm.trans eh)
                  have hv2 : pv = .ref (Fb j).1 := Option.some.inj (pe.symm.trans (hFb₁₇ j hj').1)
                  subst hv1 hv2
                  have hx16 := ht16 j hj'
                  have hT := (hFb₁₇ j hj').2
                  have G₃ : Gr w g₃ := G₁₇.keeps k₃
                  refine IfExp_ (isTrue_plain (Call_ (ldG G₃ (by rfl) ?_)))
                  refine callWith_K G₃.kin (by rfl) (spliced_more (ldL hn hm1 (spliced_none ⟨G₃.kin, ?_⟩)))
                  refine call_hdn G₃ ((Rm.deeper (d := 7) (u := 197) R).le (by decide) (by decide)) (shown_ok S) (by have hc := cat_len (f := shownF P N i) (x := fam.getD j 0) fun k hk => shown_len S hk; unfold Str.length at hc; rw [Array.length_toList]; omega) fun h' tk' k' => wpAny_truthy_bool ?_
                  rw [hdn_cat S hi16 hx16]
                  cases hm : meets i (fam.getD j 0) with
                  | true =>
                    have hr : rowF O P i (fam.getD j 0) = (Str.ofString "", Str.ofString "") := by unfold rowF; rw [hm, if_pos rfl]
                    rw [if_pos rfl]
                    refine Tuple_ (spliced_more (Constant_str (spliced_more (Constant_str (spliced_none (wpAny_newObj_type ?_ (by size_fits)))))))
                    dsimp only
                    refine ⟨⟨_, _, rfl, Ext.trans k' (Ext.push _)⟩, fun h3 e0 e1 => ?_⟩
                    rw [hr]
                    exact ⟨_, _, _, rfl, _, e1 _ _ (size_le_of k' (Nat.le_refl _)) (Heap.get?_push_size _ rfl), rfl, _, rfl⟩
                  | false =>
                    have hr : rowF O P i (fam.getD j 0) = (nm (fam.getD j 0), cat (markedF O P i) (fam.getD j 0)) := by unfold rowF; rw [hm, if_neg Bool.false_ne_true]
                    rw [if_neg Bool.false_ne_true]
                    refine ldL (hn.keeps k') hm2 ⟨⟨_, _, rfl, k'⟩, fun h3 e0 e1 => ?_⟩
                    dsimp only
                    rw [hr]
                    exact ⟨_, _, _, rfl, hT.at fun o e => e0 _ o e⟩
                · intro Dz h₁₈ tk₁₈ zs hD₁₈ hl₁₈ hG₁₈ k₁₈
                  dsimp only at hG₁₈ hl₁₈ k₁₈ ⊢
                  have hgz := hG₁₈ h₁₈ k₁₈ fun b o _ e => e
                  rw [hhs, hbs, Nat.min_self, filter_true] at hgz
                  have rZ : RowsAre h₁₈ (fam.map (rowF O P i)) zs.toList := paired_map (paired_getD (F := fun x y => ∃ T t u, y = Value.ref T ∧ h₁₈.IsTuple T #[.str (rowF O P i x).1 t, .str (rowF O P i x).2 u]) hgz)
                  have rT₁₈ : RowsAre h₁₈ (fam.map (rowF O P i)) ts.toList := rT.ext fun T xs hT => hT.at fun o e => k₁₈ _ o e
                  have lt₁₈ : h₁₈.IsList Dt ts := isList_at lt₁₇ (k₁₈ _)
                  refine rows_ne lt₁₈ hl₁₈.isList rT₁₈ rZ (rowF_ok S h16) (rowF_ok S h16) (by have := R.un; show A.units + 3 + 64 < _; omega) ?_
                  refine wpAny_truthy_bool ?_
                  rw [decide_eq_true rfl, Bool.not_true, if_neg Bool.false_ne_true]
                  refine wpAny_execs_nil ?_
                  dsimp only
                  have x₁₈ := x₁₇.ext k₁₈
                  have G₁₈ : Gr w h₁₈ := G₁₇.keeps k₁₈
                  have la₁₈ : h₁₈.IsList a vs.toArray := isList_at lB (toB x₁₈ _)
                  clear hgz rZ rT lt₁₇ hG₁₈ hl₁₈ hD₁₈ hIt lh₁₇ lb₁₇ hFb₁₇ G₁₇ x₁₇ k₁₈ hH
                  -- if told == [...] * len(family)
                  refine wpAny_execs_cons (wpAny_If (wpAny_isTrue_Compare1 (ldL x₁₈.nL (if_pos rfl) (wpAny_BinOp ?_))))
                  refine List_ (spliced_more (Tuple_ (spliced_more (Constant_str (spliced_more (Constant_str (spliced_none ?_)))))))
                  refine wpAny_newObj_type (spliced_none (wpAny_newObj_type ?_ (by size_fits))) (by size_fits)
                  dsimp only
                  have kp : ∀ {o1 o2 : Obj}, Ext h₁₈ ((h₁₈.push o1).push o2) := fun b o e => Heap.get?_push_of_some _ (Heap.get?_push_of_some _ e)
                  refine Call_ (ldB (G₁₈.keeps kp) (by rfl) boot_len (by decide) ?_)
                  refine PyProof.Rows.callWith_builtin1 (spliced_more (ldL (x₁₈.nL.keeps kp) (Eq.trans (if_neg (by decide)) (Eq.trans (if_neg (by decide)) (Eq.trans (if_neg (by decide)) mf))) (spliced_none (call_len_list (isList_at la₁₈ (kp _)) (by omega) ?_))))
                  refine mul_one (n := vs.toArray.size) (x₁₈.nL.keeps kp) (Heap.get?_push_size _ rfl) (by omega) fun D₉ h₁₉ k₁₉ n₁₉ l₁₉ => ?_
                  dsimp only at k₁₉ ⊢
                  have kL : ∀ b o, b ≠ L → h₁₈.get? b = some o → h₁₉.get? b = some o := fun b o nb e => k₁₉ b o nb (kp b o e)
                  have x₁₉ := x₁₈.setL kL n₁₉
                  have hnT : h₁₈.objs.size ≠ L := Nat.ne_of_gt x₁₈.nL.lt
                  refine rows_eq (isList_at lt₁₈ fun o e => kL _ o (list_ns lt₁₈ x₁₈.nL) e) l₁₉ (rT₁₈.ext fun T xs hT => hT.at fun o e => kL _ o (tup_ns hT x₁₈.nL) e)
                    (rep_rows ⟨_, k₁₉ _ _ hnT (Heap.get?_push_of_some _ (Heap.get?_push_size _ rfl)), rfl, _, rfl⟩ _) (rowF_ok S h16) (rep_ok _) (by have := R.un; show A.units + 3 + 64 < _; omega) ?_
                  refine wpAny_truthy_bool ?_
                  rw [hlen, rowF_all h16]
                  have fin : ∀ g m' cv' ys', Stt L M h₃ g m' cv' ys' → m' (Str.ofString "family") = some (.ref a) → m' (Str.ofString "members") = some (.ref Dm) → m' (Str.ofString "meeting") = some (.ref M) → ys'.size ≤ i + 1 →
                      IntsAre ys'.toList (asInts ((List.range (i + 1)).filter fun c => fam.all (meets c))) → St (i + 1) g ∧ ∃ m cv ys, Ext B g ∧ Stt L M g g m cv ys ∧ m (Str.ofString "family") = some (.ref a) ∧ m (Str.ofString "members") = some (.ref Dm) ∧ m (Str.ofString "meeting") = some (.ref M) ∧ ys.size ≤ i + 1 ∧
                        IntsAre ys.toList (asInts ((List.range (i + 1)).filter fun c => fam.all (meets c))) := fun g m' cv' ys' x a1 a2 a3 a4 a5 =>
                    ⟨hframe _ _ _ hst₃ fun b hb o e => x.kk b o (fun q => fL (q ▸ hb)) (fun j h1 h2 q => fc j h1 h2 (q ▸ hb)) (fun q => fM (q ▸ hb)) e, m', cv', ys', toB x, ⟨fun _ _ _ _ _ e => e, x.nL, x.cs, x.pM⟩, a1, a2, a3, a4, a5⟩
                  cases hall : fam.all (meets i) with
                  | true =>
                    rw [if_pos rfl]
                    refine wpAny_execs_cons (append_gen (ldL x₁₉.nL (Eq.trans (if_neg (by decide)) (Eq.trans (if_neg (by decide)) (Eq.trans (if_neg (by decide)) mg))) ⟨M, rfl, ⟨_, x₁₉.pM⟩, ldCell rfl (x₁₉.cs 4 (by decide) (by decide)) ⟨_, x₁₉.pM, by rw [sizeLine_eq]; omega, fun h₂₀ hl₂₀ s₂₀ => ?_⟩⟩))
                    refine wpAny_execs_nil ?_
                    dsimp only
                    refine wpAny_execs_nil ?_
                    refine ⟨h₂₀, _, rfl, ?_⟩
                    have x₂₀ := Stt.setM x₁₉ s₂₀ hl₂₀
                    refine fin _ _ _ _ x₂₀ (Eq.trans (if_neg (by decide)) (Eq.trans (if_neg (by decide)) (Eq.trans (if_neg (by decide)) mf))) (Eq.trans (if_neg (by decide)) (Eq.trans (if_neg (by decide)) (Eq.trans (if_neg (by decide)) mm))) (Eq.trans (if_neg (by decide)) (Eq.trans (if_neg (by decide)) (Eq.trans (if_neg (by decide)) mg))) (by rw [Array.size_push]; omega) ?_
                    rw [List.range_succ, List.filter_append, Array.toList_push, show List.filter (fun c => fam.all (meets c)) [i] = [i] from by rw [List.filter_cons, hall, if_pos rfl]; rfl, asInts, List.map_append]
                    exact ints_snoc hin
                  | false =>
                    rw [if_neg Bool.false_ne_true]
                    refine wpAny_execs_nil ?_
                    dsimp only
                    refine wpAny_execs_nil ?_
                    refine ⟨_, _, rfl, ?_⟩
                    refine fin _ _ _ _ x₁₉ (Eq.trans (if_neg (by decide)) (Eq.trans (if_neg (by decide)) (Eq.trans (if_neg (by decide)) mf))) (Eq.trans (if_neg (by decide)) (Eq.trans (if_neg (by decide)) (Eq.trans (if_neg (by decide)) mm))) (Eq.trans (if_neg (by decide)) (Eq.trans (if_neg (by decide)) (Eq.trans (if_neg (by decide)) mg))) (by omega) ?_
                    rw [List.range_succ, List.filter_append, show List.filter (fun c => fam.all (meets c)) [i] = [] from by rw [List.filter_cons, hall, if_neg Bool.false_ne_true]; rfl, List.append_nil]
                    exact hin
    · rintro h h' tk ⟨_, m, cv, ys, eBh, xh, mf, mm, mg, hys, hin⟩ hk'
      have x' := xh.move hk' (nw fL) (fun i h1 h2 => nw (fc i h1 h2)) (nw fM)
      refine wpAny_execs_cons (wpAny_Return_some (ldL x'.nL mg ?_))
      exact hQ M h' tk ys (fun b o e => hk' b o (fB b o (kB b o e)) (eBh b o (kB b o e))) x'.pM hMs hin
end
end Mine
end
section
open PySem PySem.W PyProof.Rows PySem.Calls
namespace Mine
/-- what meets all -/
def meet (fam : List Nat) : List Nat := (List.range 16).filter fun c => fam.all (meets c)
def sub (y x : Nat) : Bool := (y &&& x) == y
theorem sub_refl : ∀ x < 16, sub x x = true := by decide
theorem sub_trans : ∀ x < 16, ∀ y < 16, ∀ z < 16, sub x y = true → sub y z = true → sub x z = true := by decide +kernel
theorem sub_anti : ∀ x < 16, ∀ y < 16, sub x y = true → sub y x = true → x = y := by decide
theorem sub_lt : ∀ x < 16, ∀ y < 16, sub y x = true → y ≠ x → y < x := by decide
theorem meets_up : ∀ x < 16, ∀ y < 16, ∀ c < 16, sub x y = true → meets c x = true → meets c y = true := by decide +kernel
theorem meets_comm : ∀ x < 16, ∀ y < 16, meets x y = meets y x := by decide
theorem meets_co : ∀ x < 16, ∀ c < 16, sub x c = false → meets (15 - c) x = true := by decide
theorem co_apart : ∀ c < 16, meets c (15 - c) = false := by decide
theorem mem_meet {fam : List Nat} {c : Nat} : c ∈ meet fam ↔ c < 16 ∧ ∀ x ∈ fam, meets c x = true := by
  unfold meet
  rw [List.mem_filter, List.mem_range, List.all_eq_true]
theorem lst_pred {ms : List Nat} {x : Nat} : (ms.any (· == x) && (ms.filter fun y => (y &&& x) == y && y != x).isEmpty) = true ↔ x ∈ ms ∧ ∀ y ∈ ms, sub y x = true → y = x := by
  rw [Bool.and_eq_true, List.any_eq_true, List.isEmpty_iff, List.filter_eq_nil_iff]
  refine and_congr ⟨fun ⟨y, h, e⟩ => (eq_of_beq e) ▸ h, fun h => ⟨x, h, beq_self_eq_true x⟩⟩ ⟨fun h y hy hs => ?_, fun h y hy hs => ?_⟩
  · have := h y hy
    unfold sub at hs
    rw [hs, Bool.true_and, bne_iff_ne] at this
    exact Decidable.of_not_not this
  · rw [Bool.and_eq_true, bne_iff_ne] at hs
    exact hs.2 (h y hy hs.1)
theorem mem_lst {ms : List Nat} {x : Nat} : x ∈ lst ms ↔ x < 16 ∧ x ∈ ms ∧ ∀ y ∈ ms, sub y x = true → y = x := by
  unfold lst
  rw [List.mem_filter, List.mem_range, lst_pred]
theorem least_below {ms : List Nat} (h16 : ∀ x ∈ ms, x < 16) : ∀ (n x : Nat), x ≤ n → x ∈ ms → ∃ y, y ∈ lst ms ∧ sub y x = true := by
  intro n
  induction n with
  | zero =>
    intro x hx hm
    refine ⟨x, mem_lst.mpr ⟨h16 x hm, hm, fun y hy hs => ?_⟩, sub_refl x (h16 x hm)⟩
    by_cases e : y = x
    · exact e
    · have := sub_lt x (h16 x hm) y (h16 y hy) hs e; omega
  | succ n ih =>
    intro x hx hm
    by_cases hmin : ∀ y ∈ ms, sub y x = true → y = x
    · exact ⟨x, mem_lst.mpr ⟨h16 x hm, hm, hmin⟩, sub_refl x (h16 x hm)⟩
    · have ⟨y, hy⟩ := Classical.not_forall.mp hmin
      have ⟨hy1, hy2⟩ := Classical.not_imp.mp hy
      have ⟨hy3, hy4⟩ := Classical.not_imp.mp hy2
      have hlt := sub_lt x (h16 x hm) y (h16 y hy1) hy3 hy4
      obtain ⟨z, hz, hs⟩ := ih y (by omega) hy1
      exact ⟨z, hz, sub_trans z (mem_lst.mp hz).1 y (h16 y hy1) x (h16 x hm) hs hy3⟩
theorem meet_lt {fam : List Nat} : ∀ x ∈ meet fam, x < 16 := fun x h => (mem_meet.mp h).1
theorem lst_lt {ms : List Nat} : ∀ x ∈ lst ms, x < 16 := fun x h => (mem_lst.mp h).1
/-- what meets all the least that meet all is what holds a member -/
theorem mem_back {fam : List Nat} (h16 : ∀ x ∈ fam, x < 16) {c : Nat} : c ∈ meet (lst (meet fam)) ↔ c < 16 ∧ ∃ x ∈ fam, sub x c = true := by
  rw [mem_meet]
  constructor
  · rintro ⟨hc, h⟩
    refine ⟨hc, Classical.byContradiction fun hn => ?_⟩
    have hno : ∀ x ∈ fam, sub x c = false := fun x hx => by
      cases hq : sub x c with
      | false => rfl
      | true => exact absurd ⟨x, hx, hq⟩ hn
    have h15 : 15 - c < 16 := by omega
    have hu : 15 - c ∈ meet fam := mem_meet.mpr ⟨h15, fun x hx => meets_co x (h16 x hx) c hc (hno x hx)⟩
    obtain ⟨v, hv, hs⟩ := least_below meet_lt 15 _ (by omega) hu
    have h1 := h v hv
    have h2 := meets_up v (lst_lt v hv) _ h15 c hc hs h1
    rw [co_apart c hc] at h2
    cases h2
  · rintro ⟨hc, x, hx, hs⟩
    refine ⟨hc, fun v hv => ?_⟩
    have hv' := (mem_lst.mp hv).2.1
    have h1 := (mem_meet.mp hv').2 x hx
    have hv16 := lst_lt v hv
    rw [meets_comm c hc v hv16]
    exact meets_up x (h16 x hx) c hc v hv16 hs h1
/-- Berge -/
theorem berge {fam : List Nat} (h16 : ∀ x ∈ fam, x < 16) : lst (meet (lst (meet fam))) = lst fam := by
  have e : ∀ ms : List Nat, lst ms = (List.range 16).filter fun x => (ms.any (· == x) && (ms.filter fun y => (y &&& x) == y && y != x).isEmpty) := fun _ => rfl
  rw [e (meet (lst (meet fam))), e fam]
  refine List.filter_congr fun x hx => ?_
  have hx16 := List.mem_range.mp hx
  rw [Bool.eq_iff_iff, lst_pred, lst_pred]
  constructor
  · rintro ⟨hw, hmin⟩
    obtain ⟨_, f, hf, hs⟩ := (mem_back h16).mp hw
    have hfw : f ∈ meet (lst (meet fam)) := (mem_back h16).mpr ⟨h16 f hf, f, hf, sub_refl f (h16 f hf)⟩
    have e := hmin f hfw hs
    subst e
    exact ⟨hf, fun y hy hys => hmin y ((mem_back h16).mpr ⟨h16 y hy, y, hy, sub_refl y (h16 y hy)⟩) hys⟩
  · rintro ⟨hf, hmin⟩
    refine ⟨(mem_back h16).mpr ⟨hx16, x, hf, sub_refl x hx16⟩, fun y hy hys => ?_⟩
    obtain ⟨hy16, f, hf', hs⟩ := (mem_back h16).mp hy
    have e := hmin f hf' (sub_trans f (h16 f hf') y hy16 x hx16 hs hys)
    subst e
    exact sub_anti y hy16 f hx16 hys hs
end Mine
end
section
open PySem PySem.W PyProof.Rows PySem.Calls
namespace Mine
theorem ints_pairs : ∀ {vs : List Value} {ns : List Int}, IntsAre vs ns → ∃ l : List (Int × Tok), vs = l.map (fun p => Value.int p.1 p.2) ∧ ns = l.map (·.1)
  | _, _, .nil => ⟨[], rfl, rfl⟩
  | _, _, .cons n t r => by
    obtain ⟨l, e1, e2⟩ := ints_pairs r
    exact ⟨(n, t) :: l, by rw [e1]; rfl, by rw [e2]; rfl⟩
section
variable {prog : Program} {w : World} {A : Around} {E : Value → Shared → Prop} {s : Shared} {Q : Value → Shared → Prop}
theorem sum_plain {l : Addr} {vs : List Value} {ns : List Int} (hh : A.handled = none) (hl : s.heap.IsList l vs.toArray) (hi : IntsAre vs ns)
    (h : ∀ h' tk t', Ext s.heap h' → Q (.int ns.sum t') { s with heap := h', toks := tk }) : wpAny (model prog w) A (call (.builtin "sum") [.ref l]) Q E s := by
  obtain ⟨l', rfl, rfl⟩ := ints_pairs hi
  refine sum_intListG (xs := l'.toArray) hh (by simpa [intItems] using hl) fun h' tk t' hk => ?_
  have e : preSum (numAt l'.toArray) l'.toArray.size = (l'.map (·.1)).sum := by
    rw [preSum_eq, List.take_of_length_le (by simp)]
  rw [e]
  exact h h' tk t' hk
theorem slice_plain {value slice : Expr} {l sl : Addr} {items : Array Value} {vl vu : Value} {lo hi : Option Int} (hl : s.heap.IsList l items) (hsl : s.heap.IsSliceOf sl vl vu .none) (pl : IsPart vl lo) (pu : IsPart vu hi)
    (h : ∀ D h', Ext s.heap h' → h'.PlainList D (slicePick items lo hi none) → Q (.ref D) { s with heap := h' })
    (hs : subscripted slice false (.ref l) (.ref sl) = operate [.ref sl, .ref l] (getItem (.ref l) (.ref sl)) := by with_unfolding_all rfl)
    (hsz : items.size ≤ sizeLine := by size_fits) :
    wpAny (model prog w) A (subscriptTail value slice (.ref l) (.ref sl)) Q E s :=
  tail_any (Heap.IsList.typeIs hl) list_getitem_lookup (wpAny_getItem_list_slice hl hsl pl pu .none (by simp) (h _ _ (Ext.push _) ⟨_, Heap.get?_push_size _ rfl⟩) hsz) hs
theorem add_plain {l b : Addr} {xs ys : Array Value} (hl : s.heap.PlainList l xs) (hb : s.heap.PlainList b ys)
    (h : ∀ D h', Ext s.heap h' → h'.IsList D (xs ++ ys) → Q (.ref D) { s with heap := h' }) (hsz : xs.size + ys.size ≤ sizeLine := by size_fits) :
    wpAny (model prog w) A (binaryOp .Add (.ref l) (.ref b)) Q E s := by
  obtain ⟨n, el⟩ := hl
  obtain ⟨n', eb⟩ := hb
  exact PySem.P.add_list el eb (h _ _ (Ext.push _) ⟨_, Heap.get?_push_size _ rfl, rfl, _, rfl⟩) hsz
end
/-- the drawn members -/
def famOf (ns : List Int) : List Nat := (ns.take 4).map (fun x => ((x + 6).fmod 16).toNat) ++ [3, 14, 9].drop ns.length
theorem fam_int (x : Int) : ((((x + 6).fmod 16).toNat : Nat) : Int) = (x + 6).fmod 16 ∧ ((x + 6).fmod 16).toNat < 16 := by
  have h0 : 0 ≤ (x + 6).fmod 16 := Int.fmod_nonneg_of_pos _ (by decide)
  have h1 : (x + 6).fmod 16 < 16 := Int.fmod_lt_of_pos _ (by decide)
  omega
theorem famOf_lt (ns : List Int) : ∀ x ∈ famOf ns, x < 16 := by
  intro x hx
  rcases List.mem_append.mp hx with h | h
  · obtain ⟨y, _, rfl⟩ := List.mem_map.mp h
    exact (fam_int y).2
  · have := List.mem_of_mem_drop h
    simp at this
    omega
theorem famOf_len (ns : List Int) : (famOf ns).length ≤ 7 := by
  unfold famOf
  rw [List.length_append, List.length_map, List.length_take, List.length_drop]
  simp
  omega
theorem lst_len (ms : List Nat) : (lst ms).length ≤ 16 := Nat.le_trans (List.length_filter_le ..) (by simp)
theorem meet_len (ms : List Nat) : (meet ms).length ≤ 16 := Nat.le_trans (List.length_filter_le ..) (by simp)
theorem fam_paired {l : List Int} {ys : List Value} (h : Paired (fun (j : Nat) (y : Value) => ∃ t, y = .int ((l.getD j 0 + 6).fmod 16) t) (List.filter (fun _ => true) (List.range l.length)) ys) :
    IntsAre ys (asInts (l.map fun x => ((x + 6).fmod 16).toNat)) := by
  rw [filter_true] at h
  have h2 : ∀ {l' : List Nat} {ys : List Value}, Paired (fun (j : Nat) (y : Value) => ∃ t, y = .int ((l.getD j 0 + 6).fmod 16) t) l' ys → IntsAre ys (l'.map fun j => (l.getD j 0 + 6).fmod 16) := by
    intro l' ys h
    induction h with
    | nil => exact .nil
    | cons e r ih => obtain ⟨t, rfl⟩ := e; exact .cons _ t ih
  have h3 := h2 h
  have e := filter_range_get 0 (fun _ => true) l
  rw [filter_true, List.filter_eq_self.mpr fun _ _ => rfl] at e
  have e2 : asInts (l.map fun x => ((x + 6).fmod 16).toNat) = (List.range l.length).map fun j => (l.getD j 0 + 6).fmod 16 := by
    conv => lhs; rw [← e]
    rw [asInts, List.map_map, List.map_map]
    exact List.map_congr_left fun j _ => (fam_int _).1
  rw [e2]; exact h3
theorem total_small (ns : List Int) : ∃ n : Nat, n < 4096 ∧ (ns.sum).fmod 4096 = (n : Int) :=
  ⟨((ns.sum).fmod 4096).toNat, by have h1 := Int.fmod_lt_of_pos ns.sum (show (0 : Int) < 4096 by decide); have h0 := Int.fmod_nonneg_of_pos ns.sum (show (0 : Int) < 4096 by decide); omega, by have h0 := Int.fmod_nonneg_of_pos ns.sum (show (0 : Int) < 4096 by decide); omega⟩
theorem ints_append : ∀ {vs ws : List Value} {ns ms : List Int}, IntsAre vs ns → IntsAre ws ms → IntsAre (vs ++ ws) (ns ++ ms)
  | _, _, _, _, .nil, h => h
  | _, _, _, _, .cons n t r, h => .cons n t (ints_append r h)
theorem SgAt.but {h h' : Heap} {L : Addr} {v : Value} {O P N : Nat → Str} {m : Str → Option Value} (x : SgAt h v O P N) (n : h.Ns L m) (k : ∀ b o, b ≠ L → h.get? b = some o → h'.get? b = some o) : SgAt h' v O P N := by
  obtain ⟨T, o, p, q, rfl, hT, sO, sP, sN⟩ := x
  have st : ∀ {c : Addr} {f : Nat → Str}, StrL h c f → StrL h' c f := fun {c f} s => s.at fun o e => k c o (by obtain ⟨_, l⟩ := s.list; exact list_ns l n) e
  exact ⟨T, o, p, q, rfl, hT.at fun o e => k T o (tup_ns hT n) e, st sO, st sP, st sN⟩
theorem SgAt.ext {h h' : Heap} {v : Value} {O P N : Nat → Str} (x : SgAt h v O P N) (k : Ext h h') : SgAt h' v O P N := by
  obtain ⟨T, o, p, q, rfl, hT, sO, sP, sN⟩ := x
  exact ⟨T, o, p, q, rfl, hT.at (k T), sO.ext (k _), sP.ext (k _), sN.ext (k _)⟩
theorem rmc (env : Env) : Rm (callerA.deeper env) 20 400 :=
  ⟨rfl, by show callerA.depth + 1 + 20 < recursionLimit; decide, by show callerA.units + 3 + 400 < cLine; decide⟩
theorem ints_get : ∀ {vs : List Value} {ns : List Int} {j : Nat}, IntsAre vs ns → j < ns.length → ∃ t, vs[j]? = some (.int (ns.getD j 0) t)
  | _, _, _, .nil, h => absurd h (Nat.not_lt_zero _)
  | _, _, 0, .cons n t r, _ => ⟨t, rfl⟩
  | _, _, j + 1, .cons n t r, h => by
    obtain ⟨t', e⟩ := ints_get (j := j) r (by simpa using h)
    exact ⟨t', by simpa using e⟩
end Mine
end
open PySem PySem.W PyProof.Rows PySem.Calls Mine
set_option maxHeartbeats 8000000 in
theorem PySem.Challenge.cw_wb0008_01_holds : PySem.Challenge.rw_wb0008_01.Holds :=
  hd (by
  k_go0
  all_goals try k_fold
  rename Frag.In _ _ => KX
  rename Top _ _ _ _ _ _ => T
  rename Heap.IsList _ _ _ => hL
  rename IntsAre _ _ => hI
  rename Fr _ _ _ _ => F
  rename ¬ (_ : Int) < _ => hc63
  rename World => w
  rename Shared => s₁
  rename Heap => h₁
  rename List Int => ns
  rename List Value => vs
  rename Addr => la
  have hlen : ns.length ≤ 63 := by omega
  have G₁ : Gr w h₁ := Gr.keeps ⟨KX, ⟨_, T.g⟩, ⟨_, T.b, T.builtins⟩, T.nolimit⟩ F.keep
  have hl₁ : h₁.IsList la vs.toArray := isList_at hL (F.keep _)
  have hns := F.ns
  have hvl : vs.length = ns.length := hI.length
  have hLf : s₁.heap.get? s₁.heap.objs.size = none := fresh_of (Nat.le_refl _)
  generalize hLe : s₁.heap.objs.size = L at hns hLf ⊢
  -- family
  obtain ⟨zs, hzs⟩ : ∃ zs, slicePick vs.toArray none (some 4) none = zs := ⟨_, rfl⟩
  have iz : IntsAre zs.toList (ns.take 4) := by have := slice_ints_uptoW hI (y := 4) (by decide); rw [hzs] at this; exact this
  have zl : zs.size = (ns.take 4).length := by have := iz.length; rw [Array.length_toList] at this; exact this
  have zl4 : (ns.take 4).length ≤ 4 := by rw [List.length_take]; omega
  refine wpAny_execs_cons (wpAny_Assign_Name (wpAny_BinOp ?_))
  refine lc_eval (h₀ := h₁) (n := zs.size) (P := PL zs) (fun _ => true) (fun h j y => ∃ t, y = .int (((ns.take 4).getD j 0 + 6).fmod 16) t) (lay_none (cl := []) (by rfl)) (by rfl) rfl (by decide) (by rw [sizeLine_eq]; omega) ?_
  refine Subscript_ (ldL hns rfl (wpAny_Slice (evalPart_none_step (evalPart_some_step (wpAny_Constant_int (evalPart_none_step ?_))))))
  refine slice_plain (hl₁.push _) ⟨_, Heap.get?_push_size _ rfl, rfl, rfl⟩ .none (.int _ _) (fun Dz hz kz lz => ?_) (hsz := by have h2 : vs.toArray.size = vs.length := List.size_toArray; rw [sizeLine_eq]; omega)
  rw [hzs] at lz
  dsimp only at kz lz ⊢
  have kp : Ext h₁ hz := Ext.trans (Ext.push _) kz
  refine itr_list rfl lz.isList Keeps.refl fun it s₂ hIt => ⟨_, _, kp, hIt, fun C => ⟨_, tgt_local (fun i v => zs[i]? = some v) (fun i v h hp => hp) rfl rfl rfl, ?_, ?_⟩, ?_⟩
  · rintro j s₃ E' _ _ _
    exact wpAny_tests_nil ⟨rfl, Keeps.refl⟩
  · rintro j s₃ E' hj _ ⟨v, m, hv, hn, hm⟩ k₃
    obtain ⟨tv, hg⟩ := ints_get iz (zl ▸ hj)
    have hv' : v = .int ((ns.take 4).getD j 0) tv := Option.some.inj ((hv : zs[j]? = some v).symm.trans (by simpa using hg))
    subst hv'
    refine wpAny_BinOp (wpAny_BinOp (ldL hn hm (wpAny_Constant_int (PyProof.Rows.add_int (wpAny_Constant_int (mod_int' (by decide) ?_))))))
    exact ⟨⟨_, _, rfl, fun _ _ e => e⟩, fun _ _ _ => ⟨_, rfl⟩⟩
  · intro D₁ h₂ tk₂ ys hD hl₂ hG k₂
    dsimp only at hG k₂ hl₂ ⊢
    have if₁ : IntsAre ys.toList (asInts ((ns.take 4).map fun x => ((x + 6).fmod 16).toNat)) := by
      have := hG h₂ (Ext.trans kp k₂) fun b o _ e => e
      rw [zl] at this
      exact fam_paired this
    have k₁₂ : Ext h₁ h₂ := Ext.trans kp k₂
    clear hG hIt k₂ hD kp kz lz
    have n₂ := hns.keeps k₁₂
    have G₂ := G₁.keeps k₁₂
    have l₂ : h₂.IsList la vs.toArray := isList_at hl₁ (k₁₂ _)
    refine Subscript_ (List_ (spliced_more (wpAny_Constant_int (spliced_more (wpAny_Constant_int (spliced_more (wpAny_Constant_int (spliced_none ?_))))))))
    refine wpAny_newObj_type ?_ (by size_fits)
    dsimp only
    refine wpAny_Slice (evalPart_some_step (Call_ (ldB (G₂.keeps (Ext.push _)) (by rfl) boot_len (by decide) ?_)))
    refine PyProof.Rows.callWith_builtin1 (spliced_more (ldL (n₂.keeps (Ext.push _)) rfl (spliced_none (call_len_list (l₂.push _) (by have h2 : vs.toArray.size = vs.length := List.size_toArray; omega) ?_))))
    refine evalPart_none_step (evalPart_none_step ?_)
    dsimp only
    refine slice_plain (Heap.IsList.push ⟨_, Heap.get?_push_size _ rfl, rfl, _, rfl⟩ _) ⟨_, Heap.get?_push_size _ rfl, rfl, rfl⟩ (.int _ _) .none fun Dw hw kw lw => ?_
    have hvs : vs.toArray.size = vs.length := List.size_toArray
    obtain ⟨ws, hws⟩ : ∃ ws, slicePick #[Value.int 3 tk₂, Value.int 14 (tk₂ + 1), Value.int 9 (tk₂ + 1 + 1)] (some ((vs.toArray.size : Nat) : Int)) none none = ws := ⟨_, rfl⟩
    have iw : IntsAre ws.toList (asInts ([3, 14, 9].drop ns.length)) := by
      have := slice_ints_fromW (vs := [Value.int 3 tk₂, Value.int 14 (tk₂ + 1), Value.int 9 (tk₂ + 1 + 1)]) (ns := [3, 14, 9]) (.cons _ _ (.cons _ _ (.cons _ _ .nil))) (x := ((vs.toArray.size : Nat) : Int)) (by omega)
      rw [show [Value.int 3 tk₂, Value.int 14 (tk₂ + 1), Value.int 9 (tk₂ + 1 + 1)].toArray = #[Value.int 3 tk₂, Value.int 14 (tk₂ + 1), Value.int 9 (tk₂ + 1 + 1)] from rfl, hws, Int.toNat_natCast, hvs, hvl] at this
      rw [asInts, List.map_drop]
      exact this
    dsimp only at kw lw ⊢
    rw [hws] at lw
    have ifam : IntsAre (ys.toList ++ ws.toList) (asInts (famOf ns)) := by
      rw [famOf, asInts, List.map_append]
      exact ints_append if₁ iw
    have yl : ys.size ≤ 4 := by have h1 := if₁.length; rw [asInts_length, List.length_map, Array.length_toList] at h1; omega
    have wl : ws.size ≤ 3 := by have h1 := iw.length; rw [asInts_length, List.length_drop, Array.length_toList] at h1; simp at h1; omega
    have kq : Ext h₂ hw := Ext.trans (Ext.trans (Ext.push _) (Ext.push _)) kw
    refine add_plain (hl₂.at (kq _)) lw (fun Fa h₃ k₃ lF => ?_) (by rw [sizeLine_eq]; omega)
    rw [show ys ++ ws = (ys.toList ++ ws.toList).toArray by simp] at lF
    generalize ys.toList ++ ws.toList = fs at lF ifam
    have k₀₃ : Ext s₁.heap h₃ := Ext.trans F.keep (Ext.trans k₁₂ (Ext.trans kq k₃))
    have n₃ := n₂.keeps (Ext.trans kq k₃)
    dsimp only at k₃ lF n₃ ⊢
    clear kq yl wl iw lw kw if₁ hl₂ l₂ G₂ n₂ k₁₂ k₃
    refine wpAny_storeName_local rfl n₃ (fun h₄ n₄ s₄ => ?_) rfl
    have ke : ∀ {h h' : Heap}, Heap.SameBut L h h' → ∀ b o, b ≠ L → h.get? b = some o → h'.get? b = some o := fun s b o nb e => s.extBut b o nb e
    have ks : ∀ {h h' : Heap}, Ext s₁.heap h → Heap.SameBut L h h' → Ext s₁.heap h' := fun k s b o e => s.extBut b o (fun q => no_some hLf (q ▸ e)) (k b o e)
    replace lF := isList_at lF fun o e => ke s₄ _ o (list_ns lF n₃) e
    have k₄ := ks k₀₃ s₄
    have G₀ : Gr w s₁.heap := ⟨KX, ⟨_, T.g⟩, ⟨_, T.b, T.builtins⟩, T.nolimit⟩
    have G₄ := G₀.keeps k₄
    have l₄ : h₄.IsList la vs.toArray := isList_at hL (k₄ _)
    clear k₀₃ n₃ s₄
    -- signs
    refine wpAny_execs_cons (wpAny_Assign_Name (Call_ (ldG G₄ (by rfl) ?_)))
    refine callWith_K G₄.kin (by rfl) (spliced_more (wpAny_BinOp (Call_ (ldB G₄ (by rfl) boot_sum (by decide) ?_))))
    refine PyProof.Rows.callWith_builtin1 (spliced_more (Subscript_ (ldL n₄ (Eq.trans (if_neg (by decide)) rfl) (wpAny_Slice (evalPart_none_step (evalPart_some_step (wpAny_Constant_int (evalPart_none_step ?_))))))))
    refine slice_plain (l₄.push _) ⟨_, Heap.get?_push_size _ rfl, rfl, rfl⟩ .none (.int _ _) (fun Dz hz kz lz => ?_) (hsz := by rw [sizeLine_eq]; omega)
    have iz63 := slice_ints_uptoW hI (y := 63) (by decide)
    dsimp only at kz lz ⊢
    have k₄z : Ext h₄ hz := Ext.trans (Ext.push _) kz
    refine spliced_none (sum_plain (vs := (slicePick vs.toArray none (some 63) none).toList) rfl (by simpa using lz.isList) iz63 fun h₅ tk₅ t₅ k₅ => ?_)
    obtain ⟨n, hn, en⟩ := total_small (ns.take (63 : Int).toNat)
    refine wpAny_Constant_int (mod_int' (by decide) ?_)
    rw [en]
    dsimp only at k₅ ⊢
    have k₄₅ := Ext.trans k₄z k₅
    have G₅ := G₄.keeps k₄₅
    refine spliced_none ⟨G₅.kin, ?_⟩
    show wpAny (model PR w) _ (call (.ref 55) [.int (n : Int) _]) _ _ _
    refine call_signs ?_ ?_ hn ?_
    · exact G₅
    · exact (rmc _).le (by decide) (by decide)
    intro sv h₆ tk₆ O P N k₆ SO SA
    have n₆ := (n₄.keeps k₄₅).keeps k₆
    have k₀₆ : Ext s₁.heap h₆ := Ext.trans (Ext.trans k₄ k₄₅) k₆
    replace lF := isList_at lF fun o e => k₆ _ o (k₄₅ _ o e)
    dsimp only at k₆ n₆ ⊢
    clear k₆ k₅ k₄₅ k₄z kz lz iz63 n₄ k₄ l₄ G₄ G₅
    refine wpAny_storeName_local rfl n₆ (fun h₇ n₇ s₇ => ?_) rfl
    replace SA := SA.but n₆ (ke s₇)
    replace lF := isList_at lF fun o e => ke s₇ _ o (list_ns lF n₆) e
    have k₇ := ks k₀₆ s₇
    have G₇ := G₀.keeps k₇
    clear n₆ k₀₆ s₇
    dsimp only
    have hf16 := famOf_lt ns
    have hf7 := famOf_len ns
    -- meeting
    refine wpAny_execs_cons (wpAny_Assign_Name (Call_ (ldG G₇ (by rfl) ?_)))
    refine callWith_K G₇.kin (by rfl) (spliced_more (ldL n₇ (Eq.trans (if_neg (by decide)) (if_pos rfl)) (spliced_more (ldL n₇ (if_pos rfl) (spliced_none ⟨G₇.kin, ?_⟩)))))
    refine call_meeting (fam := famOf ns) (vs := fs) ?_ ?_ ?_ ifam hf16 (by omega) SO ?_ ?_
    · exact G₇
    · exact (rmc _).le (by decide) (by decide)
    · exact lF
    · exact SA
    intro Dm h₈ tk₈ ms k₈ lm hDm im
    have n₈ := n₇.keeps k₈
    have k₀₈ : Ext s₁.heap h₈ := Ext.trans k₇ k₈
    replace lF := isList_at lF (k₈ _)
    replace SA := SA.ext k₈
    replace im : IntsAre ms.toList (asInts (meet (famOf ns))) := im
    dsimp only at k₈ n₈ lm ⊢
    clear k₈ n₇ k₇ G₇ hDm
    refine wpAny_storeName_local rfl n₈ (fun h₉ n₉ s₉ => ?_) rfl
    replace SA := SA.but n₈ (ke s₉)
    replace lF := isList_at lF fun o e => ke s₉ _ o (list_ns lF n₈) e
    have lM : h₉.IsList Dm ms := isList_at lm.isList fun o e => ke s₉ _ o (list_ns lm.isList n₈) e
    have k₉ := ks k₀₈ s₉
    have G₉ := G₀.keeps k₉
    clear n₈ k₀₈ s₉ lm
    dsimp only
    -- if meeting is None
    refine wpAny_execs_cons (wpAny_If (wpAny_isTrue_Compare1 (ldL n₉ (if_pos rfl) (Constant_none (is_ref_none (wpAny_truthy_bool ?_))))))
    rw [if_neg Bool.false_ne_true]
    refine wpAny_execs_nil ?_
    dsimp only
    -- back
    refine wpAny_execs_cons (wpAny_Assign_Name (Call_ (ldG G₉ (by rfl) ?_)))
    refine callWith_K G₉.kin (by rfl) (spliced_more (Call_ (ldG G₉ (by rfl) ?_)))
    refine callWith_K G₉.kin (by rfl) (spliced_more (ldL n₉ (if_pos rfl) (spliced_none ⟨G₉.kin, ?_⟩)))
    refine call_least (ms := meet (famOf ns)) (vs := ms.toList) ?_ ?_ ?_ im (by have := meet_len (famOf ns); omega) ?_
    · exact G₉
    · exact (rmc _).le (by decide) (by decide)
    · simpa using lM
    intro Dl h₁₀ tk₁₀ ls k₁₀ ll hDl il
    have n₁₀ := n₉.keeps k₁₀
    have G₁₀ := G₉.keeps k₁₀
    dsimp only at ll n₁₀ k₁₀ ⊢
    refine spliced_more (ldL n₁₀ (Eq.trans (if_neg (by decide)) (if_pos rfl)) (spliced_none ⟨G₁₀.kin, ?_⟩))
    refine call_meeting (fam := lst (meet (famOf ns))) (vs := ls.toList) ?_ ?_ ?_ il lst_lt (by have := lst_len (meet (famOf ns)); omega) SO ?_ ?_
    · exact G₁₀
    · exact (rmc _).le (by decide) (by decide)
    · simpa using ll.isList
    · exact SA.ext k₁₀
    intro Db h₁₁ tk₁₁ bs k₁₁ lb hDb ib
    replace ib : IntsAre bs.toList (asInts (meet (lst (meet (famOf ns))))) := ib
    have k₉₁₁ : Ext h₉ h₁₁ := Ext.trans k₁₀ k₁₁
    have n₁₁ := n₉.keeps k₉₁₁
    replace lF := isList_at lF (k₉₁₁ _)
    have k₀₁₁ := Ext.trans k₉ k₉₁₁
    dsimp only at lb n₁₁ ⊢
    clear k₁₀ k₁₁ k₉₁₁ n₁₀ G₁₀ ll il lM im hDl hDb SA SO n₉ k₉ G₉
    refine wpAny_storeName_local rfl n₁₁ (fun h₁₂ n₁₂ s₁₂ => ?_) rfl
    replace lF := isList_at lF fun o e => ke s₁₂ _ o (list_ns lF n₁₁) e
    have lB : h₁₂.IsList Db bs := isList_at lb.isList fun o e => ke s₁₂ _ o (list_ns lb.isList n₁₁) e
    have k₁₂ := ks k₀₁₁ s₁₂
    have G₁₂ := G₀.keeps k₁₂
    clear n₁₁ k₀₁₁ s₁₂ lb
    dsimp only
    -- return
    refine wpAny_execs_cons (wpAny_Return_some (BoolOp_and (wpAny_Compare1 (ldL n₁₂ (if_pos rfl) (Constant_none (isnot_ref_none (wpAny_truthy_bool ?_)))))))
    rw [if_pos rfl]
    refine BoolOp_one (wpAny_Compare1 (Call_ (ldG G₁₂ (by rfl) ?_)))
    refine callWith_K G₁₂.kin (by rfl) (spliced_more (ldL n₁₂ (if_pos rfl) (spliced_none ⟨G₁₂.kin, ?_⟩)))
    refine call_least (ms := meet (lst (meet (famOf ns)))) (vs := bs.toList) ?_ ?_ ?_ ib (by have := meet_len (lst (meet (famOf ns))); omega) ?_
    · exact G₁₂
    · exact (rmc _).le (by decide) (by decide)
    · simpa using lB
    intro Dx h₁₃ tk₁₃ xs k₁₃ lx hDx ix
    have n₁₃ := n₁₂.keeps k₁₃
    have G₁₃ := G₁₂.keeps k₁₃
    replace lF := isList_at lF (k₁₃ _)
    dsimp only at lx n₁₃ ⊢
    refine Call_ (ldG G₁₃ (by rfl) ?_)
    refine callWith_K G₁₃.kin (by rfl) (spliced_more (ldL n₁₃ (Eq.trans (if_neg (by decide)) (Eq.trans (if_neg (by decide)) (Eq.trans (if_neg (by decide)) (if_pos rfl)))) (spliced_none ⟨G₁₃.kin, ?_⟩)))
    refine call_least (ms := famOf ns) (vs := fs) ?_ ?_ ?_ ifam (by omega) ?_
    · exact G₁₃
    · exact (rmc _).le (by decide) (by decide)
    · exact lF
    intro Dy h₁₄ tk₁₄ ys k₁₄ ly hDy iy
    dsimp only at ly k₁₄ ⊢
    refine eq_intsK (vs := xs.toList) (us := ys.toList) (ns := asInts (lst (meet (lst (meet (famOf ns)))))) (ms := asInts (lst (famOf ns))) (by have := isList_at lx.isList (k₁₄ _); simpa using this) ix (by simpa using ly.isList) iy ?_ ?_
    · show callerA.units + 3 + 64 < _
      decide
    rw [berge hf16, decide_eq_true rfl]
    have FE : Fr s₁.heap L h₁₄ _ := ⟨n₁₃.keeps k₁₄, Ext.trans k₁₂ (Ext.trans k₁₃ k₁₄), Nat.le_of_eq hLe⟩
    kc_close)
