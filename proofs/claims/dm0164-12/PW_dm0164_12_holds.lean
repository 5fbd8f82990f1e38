import PyProof.Rows.All
import Wide.All
import OpenK.AllK
import Open.Tops
import Wide.FinOn
import PySem.Challenge.RW_dm0164_12
section
set_option linter.unusedVariables false
namespace Mine
noncomputable def Hit3 (l : List Nat) (q x : Nat) : Prop := l[x]? = some q ∧ l[x + 1]? = some q ∧ l[x + 2]? = some q
inductive Scan3 (l : List Nat) (q : Nat) : Nat → Nat → Prop where
  | stop : Scan3 l q l.length l.length
  | hit {x : Nat} : Hit3 l q x → Scan3 l q x x
  | bs {x e : Nat} : l[x]? = some 92 → x + 2 ≤ l.length → Scan3 l q (x + 2) e → Scan3 l q x e
  | one {x e c : Nat} : l[x]? = some c → c ≠ 92 → ¬ Hit3 l q x → Scan3 l q (x + 1) e → Scan3 l q x e
inductive Scan1 (l : List Nat) (q : Nat) : Nat → Nat → Prop where
  | stop : Scan1 l q l.length l.length
  | hit {x : Nat} : l[x]? = some q → Scan1 l q x x
  | nl {x : Nat} : l[x]? = some 10 → Scan1 l q x x
  | bs {x e : Nat} : l[x]? = some 92 → x + 2 ≤ l.length → Scan1 l q (x + 2) e → Scan1 l q x e
  | one {x e c : Nat} : l[x]? = some c → c ≠ 92 → c ≠ q → c ≠ 10 → Scan1 l q (x + 1) e → Scan1 l q x e
inductive Mk (l : List Nat) : Nat → Nat → Prop where
  | one {k c : Nat} : l[k]? = some c → c ≠ 35 → c ≠ 92 → c ≠ 34 → c ≠ 39 → Mk l k (k + 1)
  | com {k m : Nat} : l[k]? = some 35 → k < m → l[m]? = some 10 → (∀ j, k < j → j < m → l[j]? ≠ some 10) → Mk l k (m + 1)
  | bs {k : Nat} : l[k]? = some 92 → k + 2 ≤ l.length → Mk l k (k + 2)
  | s3h {k q x : Nat} : q = 34 ∨ q = 39 → Hit3 l q k → Scan3 l q (k + 3) x → Hit3 l q x → Mk l k (x + 3)
  | s3e {k q : Nat} : q = 34 ∨ q = 39 → Hit3 l q k → Scan3 l q (k + 3) l.length → Mk l k l.length
  | s1h {k q x : Nat} : q = 34 ∨ q = 39 → l[k]? = some q → ¬ Hit3 l q k → Scan1 l q (k + 1) x → l[x]? = some q → Mk l k (x + 1)
  | s1e {k q x : Nat} : q = 34 ∨ q = 39 → l[k]? = some q → ¬ Hit3 l q k → Scan1 l q (k + 1) x → x = l.length ∨ l[x]? = some 10 → Mk l k x
section
variable {l : List Nat} {q : Nat}
theorem some_lt {x c : Nat} (h : l[x]? = some c) : x < l.length := (List.getElem?_eq_some_iff.mp h).1
theorem Scan3.le {x e : Nat} (h : Scan3 l q x e) : x ≤ e := by
  induction h with
  | stop => exact Nat.le_refl _
  | hit _ => exact Nat.le_refl _
  | bs _ _ _ ih => lia
  | one _ _ _ _ ih => lia
theorem Scan1.le {x e : Nat} (h : Scan1 l q x e) : x ≤ e := by
  induction h with
  | stop => exact Nat.le_refl _
  | hit _ => exact Nat.le_refl _
  | nl _ => exact Nat.le_refl _
  | bs _ _ _ ih => lia
  | one _ _ _ _ _ ih => lia
theorem Scan1.leN {x e : Nat} (h : Scan1 l q x e) : e ≤ l.length := by
  induction h with
  | stop => exact Nat.le_refl _
  | hit h => exact Nat.le_of_lt (some_lt h)
  | nl h => exact Nat.le_of_lt (some_lt h)
  | bs _ _ _ ih => exact ih
  | one _ _ _ _ _ ih => exact ih
theorem Scan3.next {x e c : Nat} (h : Scan3 l q x e) (hc : l[x]? = some c) (h1 : c ≠ q) (h2 : c ≠ 92) : Scan3 l q (x + 1) e := by
  cases h with
  | stop => rw [List.getElem?_eq_none (Nat.le_refl _)] at hc; cases hc
  | hit h => rw [h.1] at hc; cases hc; exact absurd rfl h1
  | bs h _ _ => rw [h] at hc; cases hc; exact absurd rfl h2
  | one _ _ _ h => exact h
theorem Scan1.next {x e c : Nat} (h : Scan1 l q x e) (hc : l[x]? = some c) (h1 : c ≠ q) (h2 : c ≠ 92) (h3 : c ≠ 10) : Scan1 l q (x + 1) e := by
  cases h with
  | stop => rw [List.getElem?_eq_none (Nat.le_refl _)] at hc; cases hc
  | hit h => rw [h] at hc; cases hc; exact absurd rfl h1
  | nl h => rw [h] at hc; cases hc; exact absurd rfl h3
  | bs h _ _ => rw [h] at hc; cases hc; exact absurd rfl h2
  | one _ _ _ _ h => exact h
theorem Scan3.skip {e : Nat} : ∀ (n : Nat) {x : Nat}, Scan3 l q x e → (∀ j, j < n → ∃ c, l[x + j]? = some c ∧ c ≠ q ∧ c ≠ 92) → Scan3 l q (x + n) e
  | 0, x, h, _ => h
  | n + 1, x, h, hj => by
    obtain ⟨c, h1, h2, h3⟩ := hj 0 (by lia)
    have := Scan3.skip n (h.next h1 h2 h3) (fun j hj' => by
      have := hj (j + 1) (by lia)
      rwa [show x + (j + 1) = x + 1 + j by lia] at this)
    rwa [show x + 1 + n = x + (n + 1) by lia] at this
theorem Scan1.skip {e : Nat} : ∀ (n : Nat) {x : Nat}, Scan1 l q x e → (∀ j, j < n → ∃ c, l[x + j]? = some c ∧ c ≠ q ∧ c ≠ 92 ∧ c ≠ 10) → Scan1 l q (x + n) e
  | 0, x, h, _ => h
  | n + 1, x, h, hj => by
    obtain ⟨c, h1, h2, h3, h4⟩ := hj 0 (by lia)
    have := Scan1.skip n (h.next h1 h2 h3 h4) (fun j hj' => by
      have := hj (j + 1) (by lia)
      rwa [show x + (j + 1) = x + 1 + j by lia] at this)
    rwa [show x + 1 + n = x + (n + 1) by lia] at this
theorem Mk.lt {k e : Nat} (h : Mk l k e) : k < e := by
  cases h with
  | one _ _ _ _ _ => lia
  | com _ h _ _ => lia
  | bs _ => lia
  | s3h _ _ h _ => have := h.le; lia
  | s3e _ _ h => have := h.le; lia
  | s1h _ _ _ h _ => have := h.le; lia
  | s1e _ _ _ h _ => have := h.le; lia
theorem Mk.leN {k e : Nat} (h : Mk l k e) : e ≤ l.length := by
  cases h with
  | one h _ _ _ _ => exact some_lt h
  | com _ _ h _ => exact some_lt h
  | bs _ h => exact h
  | s3h _ _ _ h => exact some_lt h.2.2
  | s3e _ _ h => exact Nat.le_refl _
  | s1h _ _ _ _ h => exact some_lt h
  | s1e _ _ _ h _ => exact h.leN
end
end Mine
end
section
open PySem PySem.Sre
set_option Elab.async false
set_option linter.unusedVariables false
set_option maxRecDepth 100000
namespace Mine
structure Cf where
  pc : Nat
  pos : Nat
  handed : Nat
  out : Bool
  loops : Array Loop
  inner : Option Nat
  frames : List Sre.Frame
  ans : Option Bool
noncomputable def Cf.m (g : Cf) (code text : Array Nat) (lim start : Nat) (sn : Seen) : M :=
  { code, text, lim, start, pc := g.pc, pos := g.pos, handed := g.handed, outermost := g.out, marks := #[], loops := g.loops, inner := g.inner, frames := g.frames, weight := g.frames.length, answer := g.ans, seen := sn }
noncomputable def Go (code text : Array Nat) (lim k : Nat) (g g' : Cf) : Prop := ∀ start sn, ∃ n, n ≤ k ∧ ∃ sn', M.runFor n (g.m code text lim start sn) = g'.m code text lim start sn'
theorem runFor_add : ∀ (a b : Nat) (m : M), M.runFor (a + b) m = M.runFor b (M.runFor a m)
  | 0, b, m => by rw [Nat.zero_add]; rfl
  | a + 1, b, m => by
    rw [show a + 1 + b = (a + b) + 1 by lia]
    show (if m.outcome.isSome then m else M.runFor (a + b) m.step) = M.runFor b (if m.outcome.isSome then m else M.runFor a m.step)
    by_cases h : m.outcome.isSome
    · rw [if_pos h, if_pos h]
      cases b with
      | zero => rfl
      | succ b => show m = if m.outcome.isSome then m else _; rw [if_pos h]
    · rw [if_neg h, if_neg h, runFor_add a b]
section
variable {code text : Array Nat} {lim k k' : Nat} {g g' g'' : Cf}
theorem Go.trans (h : Go code text lim k g g') (h' : Go code text lim k' g' g'') : Go code text lim (k + k') g g'' := fun start sn => by
  obtain ⟨n, hn, sn', e⟩ := h start sn
  obtain ⟨n', hn', sn'', e'⟩ := h' start sn'
  exact ⟨n + n', by lia, sn'', by rw [runFor_add, e, e']⟩
theorem Go.le (h : Go code text lim k g g') (hk : k ≤ k') : Go code text lim k' g g' := fun start sn => by
  obtain ⟨n, hn, r⟩ := h start sn
  exact ⟨n, by lia, r⟩
theorem one {m m' : M} (h : m.outcome = none) (h' : m.step = m') : M.runFor 1 m = m' := by
  show (if m.outcome.isSome then m else M.runFor 0 m.step) = m'
  rw [if_neg (by rw [h]; decide)]; exact h'
theorem Go.step (h : ∀ start sn, ∃ sn', (g.m code text lim start sn).step = g'.m code text lim start sn') : Go code text lim 1 g g' := fun start sn => by
  obtain ⟨sn', e⟩ := h start sn
  exact ⟨1, Nat.le_refl _, sn', one rfl e⟩
theorem step_at (hg : g.ans = none) (hp : g.pc < code.size) (start : Nat) (sn : Seen) : (g.m code text lim start sn).step = (g.m code text lim start sn).exec := by
  unfold M.step
  rw [if_neg (by show ¬ (none : Option Sre.Outcome).isSome; decide)]
  show (match g.ans, g.frames with | some yes, [] => _ | some yes, f :: rest => _ | none, _ => _) = _
  rw [hg]
  show (if g.pc < code.size then _ else _) = _
  rw [if_pos hp]
noncomputable abbrev wd (code : Array Nat) (i : Nat) : Nat := code.getD i 0
theorem go_lit {c : Nat} (hg : g.ans = none) (hp : g.pc < code.size) (h0 : wd code g.pc = 16) (h1 : wd code (g.pc + 1) = c) (hl : g.pos < lim) (ht : text.getD g.pos 0 = c) :
    Go code text lim 1 g { g with pc := g.pc + 2, pos := g.pos + 1 } := Go.step fun start sn => by
  rw [step_at hg hp]
  refine ⟨sn.add 16, ?_⟩
  have e : ops[(g.m code text lim start sn).word 0]? = some .LITERAL := by show ops[wd code (g.pc + 0)]? = _; rw [Nat.add_zero, h0]; rfl
  have e2 : (g.m code text lim start sn).word 0 = 16 := h0
  have e3 : accepts code g.pc (text.getD g.pos 0) (sn.add 16) = .ok (true, sn.add 16) := by
    unfold accepts
    rw [show code.getD g.pc 0 = 16 from h0]
    show Except.ok (_ == _, _) = _
    rw [show code.getD (g.pc + 1) 0 = c from h1, ht, beq_self_eq_true]
  have e4 : itemWidth code g.pc = 2 := by unfold itemWidth; rw [show code.getD g.pc 0 = 16 from h0]; rfl
  simp only [M.exec, e]
  simp only [e2]
  simp only [Cf.m, e3, e4, if_neg (show ¬ g.pos ≥ lim by lia), hg]
theorem word_at (g : Cf) (start : Nat) (sn sn' : Seen) (k : Nat) : ({ g.m code text lim start sn with seen := sn' } : M).word k = wd code (g.pc + k) := rfl
theorem op_at {g : Cf} {w : Nat} {op : Op} (h0 : wd code g.pc = w) (h : ops[w]? = some op) (start : Nat) (sn : Seen) : ops[(g.m code text lim start sn).word 0]? = some op := by
  show ops[wd code (g.pc + 0)]? = _
  rw [Nat.add_zero, h0]; exact h
theorem go_litN {c : Nat} (hg : g.ans = none) (hp : g.pc < code.size) (h0 : wd code g.pc = 16) (h1 : wd code (g.pc + 1) = c) (ht : g.pos < lim → text.getD g.pos 0 ≠ c) :
    Go code text lim 1 g { g with ans := some false } := Go.step fun start sn => by
  rw [step_at hg hp]
  refine ⟨sn.add 16, ?_⟩
  have e := op_at (text := text) (lim := lim) (op := .LITERAL) h0 rfl start sn
  have e2 : (g.m code text lim start sn).word 0 = 16 := h0
  simp only [M.exec, e]
  simp only [e2]
  by_cases hl : g.pos < lim
  · have e3 : accepts code g.pc (text.getD g.pos 0) (sn.add 16) = .ok (false, sn.add 16) := by
      unfold accepts
      rw [show code.getD g.pc 0 = 16 from h0]
      show Except.ok (_ == _, _) = _
      rw [show code.getD (g.pc + 1) 0 = c from h1, beq_eq_false_iff_ne.mpr (ht hl)]
    simp only [Cf.m, e3, if_neg (show ¬ g.pos ≥ lim by lia), M.say]
  · exact if_pos (show g.pos ≥ lim by lia)
theorem go_any (hg : g.ans = none) (hp : g.pc < code.size) (h0 : wd code g.pc = 3) (hl : g.pos < lim) :
    Go code text lim 1 g { g with pc := g.pc + 1, pos := g.pos + 1 } := Go.step fun start sn => by
  rw [step_at hg hp]
  refine ⟨sn.add 3, ?_⟩
  have e := op_at (text := text) (lim := lim) (op := .ANY_ALL) h0 rfl start sn
  have e2 : (g.m code text lim start sn).word 0 = 3 := h0
  have e3 : accepts code g.pc (text.getD g.pos 0) (sn.add 3) = .ok (true, sn.add 3) := by
    unfold accepts
    rw [show code.getD g.pc 0 = 3 from h0]; rfl
  have e4 : itemWidth code g.pc = 1 := by unfold itemWidth; rw [show code.getD g.pc 0 = 3 from h0]; rfl
  simp only [M.exec, e]
  simp only [e2]
  simp only [Cf.m, e3, e4, if_neg (show ¬ g.pos ≥ lim by lia), hg]
theorem go_in {w : Nat} (hg : g.ans = none) (hp : g.pc < code.size) (h0 : wd code g.pc = 13) (h1 : wd code (g.pc + 1) = w) (hl : g.pos < lim) (ha : ∀ sn, ∃ sn', accepts code g.pc (text.getD g.pos 0) sn = .ok (true, sn')) :
    Go code text lim 1 g { g with pc := g.pc + (1 + w), pos := g.pos + 1 } := Go.step fun start sn => by
  rw [step_at hg hp]
  obtain ⟨sn', e3⟩ := ha (sn.add 13)
  refine ⟨sn', ?_⟩
  have e := op_at (text := text) (lim := lim) (op := .IN) h0 rfl start sn
  have e2 : (g.m code text lim start sn).word 0 = 13 := h0
  have e4 : itemWidth code g.pc = 1 + w := by unfold itemWidth; rw [show code.getD g.pc 0 = 13 from h0, show code.getD (g.pc + 1) 0 = w from h1]; rfl
  simp only [M.exec, e]
  simp only [e2]
  simp only [Cf.m, e3, e4, if_neg (show ¬ g.pos ≥ lim by lia), hg]
theorem go_inN (hg : g.ans = none) (hp : g.pc < code.size) (h0 : wd code g.pc = 13) (ha : g.pos < lim → ∀ sn, ∃ sn', accepts code g.pc (text.getD g.pos 0) sn = .ok (false, sn')) :
    Go code text lim 1 g { g with ans := some false } := Go.step fun start sn => by
  rw [step_at hg hp]
  have e := op_at (text := text) (lim := lim) (op := .IN) h0 rfl start sn
  have e2 : (g.m code text lim start sn).word 0 = 13 := h0
  by_cases hl : g.pos < lim
  · obtain ⟨sn', e3⟩ := ha hl (sn.add 13)
    refine ⟨sn', ?_⟩
    simp only [M.exec, e]
    simp only [e2]
    simp only [Cf.m, e3, if_neg (show ¬ g.pos ≥ lim by lia), M.say]
  · refine ⟨sn.add 13, ?_⟩
    simp only [M.exec, e]
    simp only [e2]
    exact if_pos (show g.pos ≥ lim by lia)
theorem go_jump {w : Nat} (hg : g.ans = none) (hp : g.pc < code.size) (h0 : wd code g.pc = 15) (h1 : wd code (g.pc + 1) = w) :
    Go code text lim 1 g { g with pc := g.pc + 1 + w } := Go.step fun start sn => by
  rw [step_at hg hp]
  refine ⟨sn.add 15, ?_⟩
  have e := op_at (text := text) (lim := lim) (op := .JUMP) h0 rfl start sn
  have e2 : (g.m code text lim start sn).word 0 = 15 := h0
  simp only [M.exec, e]
  simp only [e2]
  simp only [word_at, h1]
  rfl
theorem go_succ (hg : g.ans = none) (hp : g.pc < code.size) (h0 : wd code g.pc = 1) :
    Go code text lim 1 g { g with handed := g.pos, ans := some true } := Go.step fun start sn => by
  rw [step_at hg hp]
  refine ⟨sn.add 1, ?_⟩
  have e := op_at (text := text) (lim := lim) (op := .SUCCESS) h0 rfl start sn
  have e2 : (g.m code text lim start sn).word 0 = 1 := h0
  simp only [M.exec, e]
  simp only [e2]
  simp only [Cf.m, M.say, Bool.false_and, Bool.or_false, Bool.and_false, if_neg Bool.false_ne_true]
theorem attempt_m {f : Sre.Frame} {t fr : Nat} {o : Bool} {start : Nat} {sn : Seen} (hw : g.frames.length + 1 ≤ 16777216) (hf : f.kept.marks = #[]) :
    (g.m code text lim start sn).attempt f t fr o = Cf.m { g with frames := f :: g.frames, pc := t, pos := fr, handed := fr, out := o } code text lim start sn := by
  unfold M.attempt
  rw [hf]
  rw [if_neg (by show ¬ (g.frames.length + 1 + 0 > 16777216); lia)]
  rfl
theorem keep_m {b : Bool} {start : Nat} {sn : Seen} : (g.m code text lim start sn).keep b = { whole := b } := by cases b <;> rfl
theorem back_m {b : Bool} {start : Nat} {sn : Seen} : (g.m code text lim start sn).putBack { whole := b } = g.m code text lim start sn := by cases b <;> rfl
theorem go_branch {w : Nat} (hg : g.ans = none) (hp : g.pc < code.size) (h0 : wd code g.pc = 7) (h1 : wd code (g.pc + 1) = w) (hw0 : w ≠ 0) (hw : g.frames.length + 1 ≤ 16777216) :
    Go code text lim 1 g { g with pc := g.pc + 2, handed := g.pos, frames := { wait := .nextBranch, pc := g.pc + 1, pos := g.pos, outermost := g.out, kept := { whole := g.inner.isSome } } :: g.frames } := Go.step fun start sn => by
  rw [step_at hg hp]
  refine ⟨sn.add 7, ?_⟩
  have e := op_at (text := text) (lim := lim) (op := .BRANCH) h0 rfl start sn
  have e2 : (g.m code text lim start sn).word 0 = 7 := h0
  simp only [M.exec, e]
  simp only [e2]
  show M.alternative (g.m code text lim start (sn.add 7)) (g.pc + 1) ((g.m code text lim start (sn.add 7)).keep g.inner.isSome) = _
  rw [keep_m]
  unfold M.alternative
  rw [if_neg (by show ¬ ((wd code (g.pc + 1) == 0) = true); rw [h1]; simpa using hw0), attempt_m hw rfl]
  rfl
noncomputable def cnt1 (P : Nat → Bool) (text : Array Nat) : (n p : Nat) → Nat
  | 0, _ => 0
  | n + 1, p => if P (text.getD p 0) then cnt1 P text n (p + 1) + 1 else 0
theorem run_is {P : Nat → Bool} {i : Nat} (hP : ∀ c sn, ∃ sn', accepts code i c sn = .ok (P c, sn')) : ∀ (n p found : Nat) (sn : Seen), ∃ sn', Sre.run code text i n p found sn = .ok (found + cnt1 P text n p, sn')
  | 0, p, found, sn => ⟨sn, rfl⟩
  | n + 1, p, found, sn => by
    obtain ⟨sn1, h1⟩ := hP (text.getD p 0) sn
    unfold Sre.run cnt1
    rw [h1]
    cases hb : P (text.getD p 0) with
    | false => exact ⟨sn1, rfl⟩
    | true =>
      obtain ⟨sn2, h2⟩ := run_is hP n (p + 1) (found + 1) sn1
      refine ⟨sn2, ?_⟩
      show Sre.run code text i n (p + 1) (found + 1) sn1 = _
      rw [h2, if_pos rfl]
      congr 2
      lia
theorem go_run {P : Nat → Bool} {skip least most n : Nat} (hg : g.ans = none) (hp : g.pc < code.size) (h0 : wd code g.pc = 24) (h1 : wd code (g.pc + 1) = skip) (h2 : wd code (g.pc + 2) = least) (h3 : wd code (g.pc + 3) = most)
    (hpos : g.pos ≤ lim) (hP : ∀ c sn, ∃ sn', accepts code (g.pc + 4) c sn = .ok (P c, sn')) (hn : cnt1 P text (min most (lim - g.pos)) g.pos = n) (hl : least ≤ n) (hl' : least ≤ lim - g.pos) (hw : g.frames.length + 1 ≤ 16777216) :
    Go code text lim 1 g { g with pc := g.pc + 1 + skip, pos := g.pos + n, handed := g.pos + n, frames := { wait := .giveBack, pc := g.pc, pos := g.pos + n, outermost := g.out, count := n, kept := { whole := g.inner.isSome } } :: g.frames } := Go.step fun start sn => by
  rw [step_at hg hp]
  have e := op_at (text := text) (lim := lim) (op := .REPEAT_ONE) h0 rfl start sn
  have e2 : (g.m code text lim start sn).word 0 = 24 := h0
  obtain ⟨sn', hr⟩ := run_is (text := text) hP (min most (lim - g.pos)) g.pos 0 ((sn.add 24).add (wd code (g.pc + 4)))
  rw [Nat.zero_add, hn] at hr
  refine ⟨sn', ?_⟩
  simp only [M.exec, e]
  simp only [e2]
  simp only [word_at, h1, h2, h3]
  have hroom : ((lim : Int) - g.pos).toNat = lim - g.pos := by lia
  simp only [Cf.m, hroom, if_neg (show ¬ ((least : Int) > (lim : Int) - g.pos) by lia), if_neg Bool.false_ne_true, hr, if_neg (show ¬ (n < least) by lia)]
  show M.afterRun (Cf.m { g with pos := g.pos + n } code text lim start sn') .giveBack n (M.keep (Cf.m { g with pos := g.pos + n } code text lim start sn') g.inner.isSome) = _
  rw [keep_m]
  unfold M.afterRun
  rw [attempt_m (g := { g with pos := g.pos + n }) hw rfl]
  show Cf.m { g with pc := g.pc + 1 + wd code (g.pc + 1), pos := g.pos + n, handed := g.pos + n, frames := _ :: g.frames } code text lim start sn' = _
  rw [h1]
  rfl
theorem go_runN {P : Nat → Bool} {least most : Nat} (hg : g.ans = none) (hp : g.pc < code.size) (h0 : wd code g.pc = 24) (h2 : wd code (g.pc + 2) = least) (h3 : wd code (g.pc + 3) = most)
    (hpos : g.pos ≤ lim) (hP : ∀ c sn, ∃ sn', accepts code (g.pc + 4) c sn = .ok (P c, sn')) (hl : cnt1 P text (min most (lim - g.pos)) g.pos < least) :
    Go code text lim 1 g { g with ans := some false } := Go.step fun start sn => by
  rw [step_at hg hp]
  have e := op_at (text := text) (lim := lim) (op := .REPEAT_ONE) h0 rfl start sn
  have e2 : (g.m code text lim start sn).word 0 = 24 := h0
  by_cases hroom : (least : Int) > (lim : Int) - g.pos
  · refine ⟨sn.add 24, ?_⟩
    simp only [M.exec, e]
    simp only [e2]
    simp only [word_at, h2, h3]
    exact if_pos hroom
  · obtain ⟨sn', hr⟩ := run_is (text := text) hP (min most (lim - g.pos)) g.pos 0 ((sn.add 24).add (wd code (g.pc + 4)))
    rw [Nat.zero_add] at hr
    refine ⟨sn', ?_⟩
    simp only [M.exec, e]
    simp only [e2]
    simp only [word_at, h2, h3]
    have hroom' : ((lim : Int) - g.pos).toNat = lim - g.pos := by lia
    simp only [Cf.m, hroom', if_neg hroom, if_neg Bool.false_ne_true, hr, if_pos hl, M.say]
end
section
variable {code text : Array Nat} {lim k k' : Nat} {g g' g'' : Cf}
theorem go_rep {w : Nat} (hg : g.ans = none) (hp : g.pc < code.size) (h0 : wd code g.pc = 23) (h1 : wd code (g.pc + 1) = w) (hw : g.frames.length + 1 ≤ 16777216) :
    Go code text lim 1 g { g with pc := g.pc + 1 + w, handed := g.pos, loops := g.loops.push { pc := g.pc, outer := g.inner }, inner := some g.loops.size, frames := { wait := .closeLoop, pc := g.pc, pos := g.pos, outermost := g.out, loop := g.loops.size } :: g.frames } := Go.step fun start sn => by
  rw [step_at hg hp]
  refine ⟨sn.add 23, ?_⟩
  have e := op_at (text := text) (lim := lim) (op := .REPEAT) h0 rfl start sn
  have e2 : (g.m code text lim start sn).word 0 = 23 := h0
  simp only [M.exec, e]
  simp only [e2]
  show M.attempt (Cf.m { g with loops := g.loops.push { pc := g.pc, outer := g.inner }, inner := some g.loops.size } code text lim start (sn.add 23)) _ (g.pc + 1 + wd code (g.pc + 1)) g.pos g.out = _
  rw [attempt_m (by exact hw) (by rfl), h1]
  rfl
noncomputable abbrev l0 : Loop := { pc := 0, outer := none }
theorem go_more {i most : Nat} {l : Loop} {L' : Array Loop} (hg : g.ans = none) (hp : g.pc < code.size) (h0 : wd code g.pc = 18) (hi : g.inner = some i) (hl : g.loops.getD i l0 = l) (h2 : wd code (l.pc + 2) = 0) (h3 : wd code (l.pc + 3) = most)
    (hc : -1 ≤ l.count) (hm : l.count + 1 < most ∨ most = maxRepeat) (hb : l.began ≠ some g.pos) (hL : g.loops.modify i (fun x => { x with count := l.count + 1, began := some g.pos }) = L') (hw : g.frames.length + 1 ≤ 16777216) :
    Go code text lim 1 g { g with pc := l.pc + 4, handed := g.pos, loops := L', frames := { wait := .maxMore, pc := g.pc + 1, pos := g.pos, outermost := g.out, count := l.count + 1, kept := { whole := true }, loop := i, began := l.began } :: g.frames } := Go.step fun start sn => by
  rw [step_at hg hp]
  refine ⟨sn.add 18, ?_⟩
  have e := op_at (text := text) (lim := lim) (op := .MAX_UNTIL) h0 rfl start sn
  have e2 : (g.m code text lim start sn).word 0 = 18 := h0
  simp only [M.exec, e]
  simp only [e2]
  show M.until_ (Cf.m { g with pc := g.pc + 1 } code text lim start (sn.add 18)) true = _
  unfold M.until_
  show (match g.inner with | none => _ | some i => _) = _
  rw [hi]
  have hl' : ∀ (m : M), m.loops = g.loops → m.loopAt i = l := fun m h => by unfold M.loopAt; rw [h]; exact hl
  simp only [hl' (Cf.m { g with pc := g.pc + 1, inner := some i } code text lim start (sn.add 18)) rfl]
  show (if l.count + 1 < ((wd code (l.pc + 2) : Nat) : Int) then _ else if (!true) = true then _ else if ((decide (l.count + 1 < ((wd code (l.pc + 3) : Nat) : Int)) || wd code (l.pc + 3) == maxRepeat) && l.began != some g.pos) = true then _ else _) = _
  rw [h2, h3, if_neg (show ¬ l.count + 1 < ((0 : Nat) : Int) by lia), if_neg (by decide), if_pos (by
    rw [Bool.and_eq_true, Bool.or_eq_true, decide_eq_true_eq, beq_iff_eq]
    exact ⟨hm, by simpa using hb⟩)]
  rw [keep_m]
  unfold M.round
  simp only [hl' (Cf.m { g with pc := g.pc + 1, inner := some i } code text lim start (sn.add 18)) rfl]
  show M.attempt (Cf.m { g with pc := g.pc + 1, inner := some i, loops := g.loops.modify i (fun x => { x with count := l.count + 1, began := some g.pos }) } code text lim start (sn.add 18)) _ (l.pc + 4) g.pos g.out = _
  rw [attempt_m (by exact hw) (by rfl), hL, ← hi]
  rfl
theorem go_tail {i most : Nat} {l : Loop} (hg : g.ans = none) (hp : g.pc < code.size) (h0 : wd code g.pc = 18) (hi : g.inner = some i) (hl : g.loops.getD i l0 = l) (h2 : wd code (l.pc + 2) = 0) (h3 : wd code (l.pc + 3) = most)
    (hc : -1 ≤ l.count) (hm : ¬ (l.count + 1 < most) ∧ most ≠ maxRepeat) (hw : g.frames.length + 1 ≤ 16777216) :
    Go code text lim 1 g { g with pc := g.pc + 1, handed := g.pos, inner := l.outer, frames := { wait := .maxTail, pc := g.pc + 1, pos := g.pos, outermost := g.out, count := l.count + 1, loop := i } :: g.frames } := Go.step fun start sn => by
  rw [step_at hg hp]
  refine ⟨sn.add 18, ?_⟩
  have e := op_at (text := text) (lim := lim) (op := .MAX_UNTIL) h0 rfl start sn
  have e2 : (g.m code text lim start sn).word 0 = 18 := h0
  simp only [M.exec, e]
  simp only [e2]
  show M.until_ (Cf.m { g with pc := g.pc + 1 } code text lim start (sn.add 18)) true = _
  unfold M.until_
  show (match g.inner with | none => _ | some i => _) = _
  rw [hi]
  have hl' : ∀ (m : M), m.loops = g.loops → m.loopAt i = l := fun m h => by unfold M.loopAt; rw [h]; exact hl
  simp only [hl' (Cf.m { g with pc := g.pc + 1, inner := some i } code text lim start (sn.add 18)) rfl]
  show (if l.count + 1 < ((wd code (l.pc + 2) : Nat) : Int) then _ else if (!true) = true then _ else if ((decide (l.count + 1 < ((wd code (l.pc + 3) : Nat) : Int)) || wd code (l.pc + 3) == maxRepeat) && l.began != some g.pos) = true then _ else _) = _
  rw [h2, h3, if_neg (show ¬ l.count + 1 < ((0 : Nat) : Int) by lia), if_neg (by decide), if_neg (by
    rw [Bool.and_eq_true, Bool.or_eq_true, decide_eq_true_eq, beq_iff_eq]
    exact fun ⟨h, _⟩ => h.elim hm.1 hm.2)]
  unfold M.afterLoop
  simp only [hl' (Cf.m { g with pc := g.pc + 1, inner := some i } code text lim start (sn.add 18)) rfl]
  show M.attempt (Cf.m { g with pc := g.pc + 1, inner := l.outer } code text lim start (sn.add 18)) { M.frame (Cf.m { g with pc := g.pc + 1, inner := l.outer } code text lim start (sn.add 18)) .maxTail with loop := i, count := l.count + 1, kept := M.keep (Cf.m { g with pc := g.pc + 1, inner := l.outer } code text lim start (sn.add 18)) false } (g.pc + 1) g.pos g.out = _
  rw [keep_m, attempt_m (by exact hw) (by rfl)]
  rfl
theorem go_not {w : Nat} (hg : g.ans = none) (hp : g.pc < code.size) (h0 : wd code g.pc = 5) (h2 : wd code (g.pc + 2) = 0) (hw : g.frames.length + 1 ≤ 16777216) :
    Go code text lim 1 g { g with pc := g.pc + 3, handed := g.pos, out := false, frames := { wait := .lookNot, pc := g.pc, pos := g.pos, outermost := g.out, kept := { whole := g.inner.isSome } } :: g.frames } := Go.step fun start sn => by
  rw [step_at hg hp]
  refine ⟨sn.add 5, ?_⟩
  have e := op_at (text := text) (lim := lim) (op := .ASSERT_NOT) h0 rfl start sn
  have e2 : (g.m code text lim start sn).word 0 = 5 := h0
  simp only [M.exec, e]
  simp only [e2]
  simp only [word_at, h2]
  show (if g.pos < 0 then _ else M.attempt (Cf.m g code text lim start (sn.add 5)) { M.frame (Cf.m g code text lim start (sn.add 5)) .lookNot with kept := M.keep (Cf.m g code text lim start (sn.add 5)) g.inner.isSome } (g.pc + 3) (g.pos - 0) false) = _
  rw [if_neg (by lia), keep_m, attempt_m (by exact hw) (by rfl)]
  rfl
theorem step_back {f : Sre.Frame} {rest : List Sre.Frame} {yes : Bool} (hg : g.ans = some yes) (hf : g.frames = f :: rest) (hk : f.kept.marks = #[]) (start : Nat) (sn : Seen) :
    (g.m code text lim start sn).step = M.resume (Cf.m { g with ans := none, frames := rest, pc := f.pc, pos := f.pos, out := f.outermost } code text lim start sn) f yes := by
  unfold M.step
  rw [if_neg (by show ¬ (none : Option Sre.Outcome).isSome; decide)]
  show (match g.ans, g.frames with | some yes, [] => _ | some yes, f :: rest => _ | none, _ => _) = _
  rw [hg, hf]
  show M.resume { Cf.m g code text lim start sn with answer := none, frames := rest, weight := g.frames.length - (1 + f.kept.marks.size), pc := f.pc, pos := f.pos, outermost := f.outermost } f yes = _
  rw [hk, hf]
  have : (f :: rest).length - (1 + (#[] : Array (Option Nat)).size) = rest.length := by simp
  rw [this]
  rfl
noncomputable def good (f : Sre.Frame) : Bool := f.kept.marks.isEmpty && match f.wait with
  | .nextBranch | .giveBack | .closeLoop | .maxMore | .maxTail => true
  | _ => false
theorem good.marks {f : Sre.Frame} (h : good f = true) : f.kept.marks = #[] := by
  unfold good at h; rw [Bool.and_eq_true] at h; simpa using h.1
theorem up_good {f : Sre.Frame} {rest : List Sre.Frame} (hg : g.ans = some true) (hf : g.frames = f :: rest) (h : good f = true) : ∃ g', Go code text lim 1 g g' ∧ g'.ans = some true ∧ g'.frames = rest ∧ g'.handed = g.handed := by
  have hm := good.marks h
  unfold good at h
  rw [Bool.and_eq_true] at h
  have h := h.2
  cases hw : f.wait <;> rw [hw] at h <;> dsimp only at h <;> try cases h
  · exact ⟨{ g with ans := some true, frames := rest, pc := f.pc, pos := f.pos, out := f.outermost }, .step fun start sn => ⟨sn, by rw [step_back hg hf hm]; unfold M.resume; rw [hw]; dsimp only; rw [if_pos rfl]; rfl⟩, rfl, rfl, rfl⟩
  · exact ⟨{ g with ans := some true, frames := rest, pc := f.pc, pos := f.pos, out := f.outermost }, .step fun start sn => ⟨sn, by rw [step_back hg hf hm]; unfold M.resume; rw [hw]; dsimp only; rw [if_pos rfl]; rfl⟩, rfl, rfl, rfl⟩
  · exact ⟨{ g with ans := some true, frames := rest, pc := f.pc, pos := f.pos, out := f.outermost, inner := (g.loops.getD f.loop l0).outer, loops := g.loops.pop }, .step fun start sn => ⟨sn, by rw [step_back hg hf hm]; unfold M.resume; rw [hw]; dsimp only; rfl⟩, rfl, rfl, rfl⟩
  · exact ⟨{ g with ans := some true, frames := rest, pc := f.pc, pos := f.pos, out := f.outermost, loops := g.loops.modify f.loop fun l => { l with began := f.began } }, .step fun start sn => ⟨sn, by rw [step_back hg hf hm]; unfold M.resume; rw [hw]; dsimp only; rw [if_pos rfl]; rfl⟩, rfl, rfl, rfl⟩
  · exact ⟨{ g with ans := some true, frames := rest, pc := f.pc, pos := f.pos, out := f.outermost, inner := some f.loop }, .step fun start sn => ⟨sn, by rw [step_back hg hf hm]; unfold M.resume; rw [hw]; dsimp only; rfl⟩, rfl, rfl, rfl⟩
noncomputable def Endd (code text : Array Nat) (lim k : Nat) (g : Cf) (o : Option Nat) : Prop := ∀ start sn, ∃ n, n ≤ k ∧ ∃ m, M.runFor n (g.m code text lim start sn) = m ∧ match o with
  | some e => m.outcome = some .matched ∧ m.handed = e ∧ m.start = start ∧ m.lastmark = -1 ∧ m.lastindex = -1
  | none => m.outcome = some .failed
theorem Go.endd {o : Option Nat} (h : Go code text lim k g g') (h' : Endd code text lim k' g' o) : Endd code text lim (k + k') g o := fun start sn => by
  obtain ⟨n, hn, sn', e⟩ := h start sn
  obtain ⟨n', hn', m, e', r⟩ := h' start sn'
  exact ⟨n + n', by lia, m, by rw [runFor_add, e, e'], r⟩
theorem Endd.le {o : Option Nat} (h : Endd code text lim k g o) (hk : k ≤ k') : Endd code text lim k' g o := fun start sn => by
  obtain ⟨n, hn, r⟩ := h start sn
  exact ⟨n, by lia, r⟩
theorem end_yes (hg : g.ans = some true) (hf : g.frames = []) : Endd code text lim 1 g (some g.handed) := fun start sn => by
  refine ⟨1, Nat.le_refl _, _, one rfl rfl, ?_⟩
  unfold M.step
  rw [if_neg (by show ¬ (none : Option Sre.Outcome).isSome; decide)]
  have : (g.m code text lim start sn).answer = some true := hg
  have h2 : (g.m code text lim start sn).frames = [] := hf
  simp only [this, h2]
  exact ⟨rfl, rfl, rfl, rfl, rfl⟩
theorem end_no (hg : g.ans = some false) (hf : g.frames = []) : Endd code text lim 1 g none := fun start sn => by
  refine ⟨1, Nat.le_refl _, _, one rfl rfl, ?_⟩
  unfold M.step
  rw [if_neg (by show ¬ (none : Option Sre.Outcome).isSome; decide)]
  have : (g.m code text lim start sn).answer = some false := hg
  have h2 : (g.m code text lim start sn).frames = [] := hf
  simp only [this, h2]
  rfl
theorem end_up : ∀ (fs : List Sre.Frame) {g : Cf}, g.ans = some true → g.frames = fs → fs.all good = true → Endd code text lim (fs.length + 1) g (some g.handed)
  | [], g, hg, hf, _ => end_yes hg hf
  | f :: fs, g, hg, hf, h => by
    rw [List.all_cons, Bool.and_eq_true] at h
    obtain ⟨g', h1, h2, h3, h4⟩ := up_good (code := code) (text := text) (lim := lim) hg hf h.1
    rw [← h4]
    exact (h1.endd (end_up fs h2 h3 h.2)).le (by simp; lia)
theorem go_nextB {f : Sre.Frame} {rest : List Sre.Frame} {w : Nat} {b : Bool} (hg : g.ans = some false) (hf : g.frames = f :: rest) (hw : f.wait = .nextBranch) (hk : f.kept = { whole := b }) (h1 : wd code f.pc = w) (h2 : wd code (f.pc + w) ≠ 0) (hr : rest.length + 1 ≤ 16777216) :
    Go code text lim 1 g { g with ans := none, pc := f.pc + w + 1, pos := f.pos, handed := f.pos, out := f.outermost, frames := { wait := .nextBranch, pc := f.pc + w, pos := f.pos, outermost := f.outermost, kept := { whole := b } } :: rest } := .step fun start sn => ⟨sn, by
  rw [step_back hg hf (by rw [hk])]
  unfold M.resume
  rw [hw, hk]
  dsimp only
  rw [back_m, if_neg Bool.false_ne_true]
  show M.alternative _ (f.pc + wd code f.pc) _ = _
  rw [h1]
  unfold M.alternative
  rw [if_neg (by show ¬ ((wd code (f.pc + w) == 0) = true); simpa using h2)]
  rw [attempt_m (by exact hr) (by rfl)]
  rfl⟩
theorem go_lastB {f : Sre.Frame} {rest : List Sre.Frame} {w : Nat} {b : Bool} (hg : g.ans = some false) (hf : g.frames = f :: rest) (hw : f.wait = .nextBranch) (hk : f.kept = { whole := b }) (h1 : wd code f.pc = w) (h2 : wd code (f.pc + w) = 0) :
    Go code text lim 1 g { g with pc := f.pc, pos := f.pos, out := f.outermost, frames := rest } := .step fun start sn => ⟨sn, by
  rw [step_back hg hf (by rw [hk])]
  unfold M.resume
  rw [hw, hk]
  dsimp only
  rw [back_m, if_neg Bool.false_ne_true]
  show M.alternative _ (f.pc + wd code f.pc) _ = _
  rw [h1]
  unfold M.alternative
  rw [if_pos (by show (wd code (f.pc + w) == 0) = true; rw [h2]; rfl)]
  show Cf.m { g with ans := some false, pc := f.pc, pos := f.pos, out := f.outermost, frames := rest } code text lim start sn = _
  rw [← hg]⟩
theorem go_give {f : Sre.Frame} {rest : List Sre.Frame} {skip n : Nat} {b : Bool} (hg : g.ans = some false) (hf : g.frames = f :: rest) (hw : f.wait = .giveBack) (hk : f.kept = { whole := b }) (hn : f.count = (n + 1 : Nat)) (h1 : wd code (f.pc + 1) = skip) (h2 : wd code (f.pc + 2) = 0) (hr : rest.length + 1 ≤ 16777216) :
    Go code text lim 1 g { g with ans := none, pc := f.pc + 1 + skip, pos := f.pos - 1, handed := f.pos - 1, out := f.outermost, frames := { wait := .giveBack, pc := f.pc, pos := f.pos - 1, outermost := f.outermost, count := n, kept := { whole := b } } :: rest } := .step fun start sn => ⟨sn, by
  rw [step_back hg hf (by rw [hk])]
  unfold M.resume
  rw [hw, hk]
  dsimp only
  rw [back_m, if_neg Bool.false_ne_true]
  rw [if_neg (by show ¬ (f.count - 1 < ((wd code (f.pc + 2) : Nat) : Int)); rw [h2, hn]; lia)]
  show M.afterRun (Cf.m { g with ans := none, frames := rest, pc := f.pc, pos := f.pos - 1, out := f.outermost } code text lim start sn) .giveBack (f.count - 1) { whole := b } = _
  unfold M.afterRun
  rw [attempt_m (by exact hr) (by rfl)]
  have : f.count - 1 = (n : Int) := by rw [hn]; lia
  rw [this]
  show Cf.m { g with ans := none, pc := f.pc + 1 + wd code (f.pc + 1), pos := f.pos - 1, handed := f.pos - 1, out := f.outermost, frames := _ :: rest } code text lim start sn = _
  rw [h1]
  rfl⟩
theorem go_give0 {f : Sre.Frame} {rest : List Sre.Frame} {b : Bool} (hg : g.ans = some false) (hf : g.frames = f :: rest) (hw : f.wait = .giveBack) (hk : f.kept = { whole := b }) {n least : Nat} (hn : f.count = n) (h2 : wd code (f.pc + 2) = least) (hl : n ≤ least) (h0 : n = 0 ∨ n - 1 < least) :
    Go code text lim 1 g { g with pc := f.pc, pos := f.pos, out := f.outermost, frames := rest } := .step fun start sn => ⟨sn, by
  rw [step_back hg hf (by rw [hk])]
  unfold M.resume
  rw [hw, hk]
  dsimp only
  rw [back_m, if_neg Bool.false_ne_true]
  rw [if_pos (by show f.count - 1 < ((wd code (f.pc + 2) : Nat) : Int); rw [h2, hn]; lia)]
  show Cf.m { g with ans := some false, pc := f.pc, pos := f.pos, out := f.outermost, frames := rest } code text lim start sn = _
  rw [← hg]⟩
theorem go_close {f : Sre.Frame} {rest : List Sre.Frame} {l : Loop} {L' : Array Loop} (hg : g.ans = some false) (hf : g.frames = f :: rest) (hw : f.wait = .closeLoop) (hk : f.kept.marks = #[]) (hl : g.loops.getD f.loop l0 = l) (hL : g.loops.pop = L') :
    Go code text lim 1 g { g with pc := f.pc, pos := f.pos, out := f.outermost, frames := rest, inner := l.outer, loops := L' } := .step fun start sn => ⟨sn, by
  rw [step_back hg hf hk]
  unfold M.resume
  rw [hw]
  dsimp only
  show Cf.m { g with ans := some false, pc := f.pc, pos := f.pos, out := f.outermost, frames := rest, inner := (g.loops.getD f.loop l0).outer, loops := g.loops.pop } code text lim start sn = _
  rw [hl, hL, ← hg]⟩
theorem go_mtail {f : Sre.Frame} {rest : List Sre.Frame} (hg : g.ans = some false) (hf : g.frames = f :: rest) (hw : f.wait = .maxTail) (hk : f.kept.marks = #[]) :
    Go code text lim 1 g { g with pc := f.pc, pos := f.pos, out := f.outermost, frames := rest, inner := some f.loop } := .step fun start sn => ⟨sn, by
  rw [step_back hg hf hk]
  unfold M.resume
  rw [hw]
  dsimp only
  show Cf.m { g with ans := some false, pc := f.pc, pos := f.pos, out := f.outermost, frames := rest, inner := some f.loop } code text lim start sn = _
  rw [← hg]⟩
theorem go_mmore {f : Sre.Frame} {rest : List Sre.Frame} {o : Option Nat} {L' : Array Loop} (hg : g.ans = some false) (hf : g.frames = f :: rest) (hw : f.wait = .maxMore) (hk : f.kept = { whole := true })
    (hL : (g.loops.modify f.loop fun l => { l with began := f.began }).modify f.loop (fun l => { l with count := f.count - 1 }) = L') (ho : (L'.getD f.loop l0).outer = o) (hr : rest.length + 1 ≤ 16777216) :
    Go code text lim 1 g { g with ans := none, pc := f.pc, pos := f.pos, handed := f.pos, out := f.outermost, loops := L', inner := o, frames := { wait := .maxTail, pc := f.pc, pos := f.pos, outermost := f.outermost, count := f.count, loop := f.loop } :: rest } := .step fun start sn => ⟨sn, by
  rw [step_back hg hf (by rw [hk])]
  unfold M.resume
  rw [hw, hk]
  dsimp only
  rw [if_neg Bool.false_ne_true]
  show M.afterLoop (M.setLoop (M.putBack (Cf.m { g with ans := none, frames := rest, pc := f.pc, pos := f.pos, out := f.outermost, loops := g.loops.modify f.loop fun l => { l with began := f.began } } code text lim start sn) { whole := true }) f.loop fun l => { l with count := f.count - 1 }) .maxTail f.loop f.count (fun _ => false) = _
  rw [back_m]
  show M.afterLoop (Cf.m { g with ans := none, frames := rest, pc := f.pc, pos := f.pos, out := f.outermost, loops := (g.loops.modify f.loop fun l => { l with began := f.began }).modify f.loop (fun l => { l with count := f.count - 1 }) } code text lim start sn) .maxTail f.loop f.count (fun _ => false) = _
  rw [hL]
  unfold M.afterLoop
  have e : (M.loopAt (Cf.m { g with ans := none, frames := rest, pc := f.pc, pos := f.pos, out := f.outermost, loops := L' } code text lim start sn) f.loop).outer = o := ho
  simp only [e]
  show M.attempt (Cf.m { g with ans := none, frames := rest, pc := f.pc, pos := f.pos, out := f.outermost, loops := L', inner := o } code text lim start sn) { M.frame (Cf.m { g with ans := none, frames := rest, pc := f.pc, pos := f.pos, out := f.outermost, loops := L', inner := o } code text lim start sn) .maxTail with loop := f.loop, count := f.count, kept := M.keep (Cf.m { g with ans := none, frames := rest, pc := f.pc, pos := f.pos, out := f.outermost, loops := L', inner := o } code text lim start sn) false } f.pc f.pos f.outermost = _
  rw [keep_m, attempt_m (by exact hr) (by rfl)]
  rfl⟩
theorem go_lookY {f : Sre.Frame} {rest : List Sre.Frame} (hg : g.ans = some true) (hf : g.frames = f :: rest) (hw : f.wait = .lookNot) (hk : f.kept.marks = #[]) :
    Go code text lim 1 g { g with ans := some false, pc := f.pc, pos := f.pos, out := f.outermost, frames := rest } := .step fun start sn => ⟨sn, by
  rw [step_back hg hf hk]
  unfold M.resume
  rw [hw]
  dsimp only
  rw [if_pos rfl]
  rfl⟩
theorem go_lookN {f : Sre.Frame} {rest : List Sre.Frame} {w : Nat} {b : Bool} (hg : g.ans = some false) (hf : g.frames = f :: rest) (hw : f.wait = .lookNot) (hk : f.kept = { whole := b }) (h1 : wd code (f.pc + 1) = w) :
    Go code text lim 1 g { g with ans := none, pc := f.pc + 1 + w, pos := f.pos, out := f.outermost, frames := rest } := .step fun start sn => ⟨sn, by
  rw [step_back hg hf (by rw [hk])]
  unfold M.resume
  rw [hw, hk]
  dsimp only
  rw [if_neg Bool.false_ne_true, back_m]
  show Cf.m { g with ans := none, frames := rest, pc := f.pc + 1 + wd code (f.pc + 1), pos := f.pos, out := f.outermost } code text lim start sn = _
  rw [h1]⟩
end
noncomputable def c2 : Array Nat := #[14, 4, 0, 1, 4294967295, 24, 11, 0, 4294967295, 13, 6, 16, 32, 16, 9, 0, 1, 23, 16, 0, 1, 16, 35, 13, 4, 8, 13, 0, 24, 5, 0, 4294967295, 2, 1, 18, 16, 10, 1]
noncomputable def c6 : Array Nat := #[14, 4, 0, 1, 4294967295, 24, 17, 1, 4294967295, 13, 12, 21, 9, 0, 908, 939524096, 671088640, 0, 0, 0, 0, 0, 1, 1]
noncomputable def c3 : Array Nat := #[14, 9, 4, 1, 4294967295, 16, 34, 16, 39, 0, 7, 72, 16, 34, 16, 34, 16, 34, 24, 12, 0, 4294967295, 13, 7, 21, 16, 34, 16, 92, 0, 1, 23, 37, 0, 4294967295, 7, 6, 16, 92, 3, 15, 15, 13, 16, 34, 5, 7, 0, 16, 34, 16, 34, 1, 15, 2, 0, 24, 12, 0, 4294967295, 13, 7, 21, 16, 34, 16, 92, 0, 1, 18, 23, 9, 0, 1, 16, 34, 16, 34, 16, 34, 18, 15, 186, 56, 16, 34, 24, 17, 0, 4294967295, 13, 12, 21, 9, 1024, 4, 268435456, 0, 0, 0, 0, 0, 0, 1, 23, 24, 0, 4294967295, 16, 92, 3, 24, 17, 0, 4294967295, 13, 12, 21, 9, 1024, 4, 268435456, 0, 0, 0, 0, 0, 0, 1, 18, 24, 6, 0, 1, 16, 34, 1, 15, 130, 72, 16, 39, 16, 39, 16, 39, 24, 12, 0, 4294967295, 13, 7, 21, 16, 39, 16, 92, 0, 1, 23, 37, 0, 4294967295, 7, 6, 16, 92, 3, 15, 15, 13, 16, 39, 5, 7, 0, 16, 39, 16, 39, 1, 15, 2, 0, 24, 12, 0, 4294967295, 13, 7, 21, 16, 39, 16, 92, 0, 1, 18, 23, 9, 0, 1, 16, 39, 16, 39, 16, 39, 18, 15, 58, 56, 16, 39, 24, 17, 0, 4294967295, 13, 12, 21, 9, 1024, 128, 268435456, 0, 0, 0, 0, 0, 0, 1, 23, 24, 0, 4294967295, 16, 92, 3, 24, 17, 0, 4294967295, 13, 12, 21, 9, 1024, 128, 268435456, 0, 0, 0, 0, 0, 0, 1, 18, 24, 6, 0, 1, 16, 39, 1, 15, 2, 0, 1]
theorem nleq {a b : Nat} (h : Nat.ble a b = true) : a ≤ b := Nat.le_of_ble_eq_true h
noncomputable def Has (code : Array Nat) (b : Nat) (ws : List Nat) : Prop := b + ws.length ≤ code.size ∧ ∀ i, i < ws.length → wd code (b + i) = ws.getD i 0
theorem Has.at {code : Array Nat} {b : Nat} {ws : List Nat} (h : Has code b ws) (i : Nat) (hi : i < ws.length := by exact Nat.le_of_ble_eq_true rfl) : wd code (b + i) = ws.getD i 0 := h.2 i hi
theorem Has.lt {code : Array Nat} {b : Nat} {ws : List Nat} (h : Has code b ws) (i : Nat) (hi : i < ws.length := by exact Nat.le_of_ble_eq_true rfl) : b + i < code.size := Nat.lt_of_lt_of_le (Nat.add_lt_add_left hi b) h.1
section
variable {code text : Array Nat} {lim k k' : Nat} {g g' g'' : Cf}
theorem in_lit {i fuel c w : Nat} {yes : Bool} {sn : Seen} (h0 : wd code i = 16) (h1 : wd code (i + 1) = w) : inSet code c (fuel + 1) i yes sn = if c == w then .ok (yes, sn.add 16) else inSet code c fuel (i + 2) yes (sn.add 16) := by
  have e0 : code.getD i 0 = 16 := h0
  have e1 : code.getD (i + 1) 0 = w := h1
  have e2 : ops[16]? = some .LITERAL := rfl
  conv => lhs; unfold inSet
  simp only [Nat.add_zero, e0, e1, e2]
theorem in_end {i fuel c : Nat} {yes : Bool} {sn : Seen} (h0 : wd code i = 0) : inSet code c (fuel + 1) i yes sn = .ok (!yes, sn.add 0) := by
  have e0 : code.getD i 0 = 0 := h0
  have e2 : ops[0]? = some .FAILURE := rfl
  conv => lhs; unfold inSet
  simp only [Nat.add_zero, e0, e2]
theorem in_neg {i fuel c : Nat} {yes : Bool} {sn : Seen} (h0 : wd code i = 21) : inSet code c (fuel + 1) i yes sn = inSet code c fuel (i + 1) (!yes) (sn.add 21) := by
  have e0 : code.getD i 0 = 21 := h0
  have e2 : ops[21]? = some .NEGATE := rfl
  conv => lhs; unfold inSet
  simp only [Nat.add_zero, e0, e2]
theorem in_set {i fuel c : Nat} {yes : Bool} {sn : Seen} (h0 : wd code i = 9) : inSet code c (fuel + 1) i yes sn = if c < 256 && (wd code (i + (1 + c / 32))).testBit (c % 32) then .ok (yes, sn.add 9) else inSet code c fuel (i + 9) yes (sn.add 9) := by
  have e0 : code.getD i 0 = 9 := h0
  have e2 : ops[9]? = some .CHARSET := rfl
  conv => lhs; unfold inSet
  simp only [Nat.add_zero, e0, e2]
theorem in_cat {i fuel c w : Nat} {b yes : Bool} {sn : Seen} (h0 : wd code i = 8) (h1 : wd code (i + 1) = w) (hc : category w c = .ok b) : inSet code c (fuel + 1) i yes sn = if b then .ok (yes, (sn.add 8).add (55 + w)) else inSet code c fuel (i + 2) yes ((sn.add 8).add (55 + w)) := by
  have e0 : code.getD i 0 = 8 := h0
  have e1 : code.getD (i + 1) 0 = w := h1
  have e2 : ops[8]? = some .CATEGORY := rfl
  conv => lhs; unfold inSet
  simp only [Nat.add_zero, e0, e1, e2, hc]
  cases b <;> rfl
theorem acc_in {i c : Nat} {sn : Seen} (h0 : wd code i = 13) : accepts code i c sn = inSet code c code.size (i + 2) true sn := by
  unfold accepts
  rw [show code.getD i 0 = 13 from h0]; rfl
theorem acc_any {i c : Nat} {sn : Seen} (h0 : wd code i = 2) : accepts code i c sn = .ok (c != 10, sn) := by
  unfold accepts
  rw [show code.getD i 0 = 2 from h0]; rfl
theorem acc_lit {i c w : Nat} {sn : Seen} (h0 : wd code i = 16) (h1 : wd code (i + 1) = w) : accepts code i c sn = .ok (c == w, sn) := by
  unfold accepts
  rw [show code.getD i 0 = 16 from h0, show code.getD (i + 1) 0 = w from h1]; rfl
theorem acc_nq {i q c : Nat} (h : Has code i [13, 7, 21, 16, q, 16, 92, 0]) (sn : Seen) : ∃ sn', accepts code i c sn = .ok (!(c == q || c == 92), sn') := by
  have hs : ∃ f, code.size = f + 4 := ⟨code.size - 4, by have := h.1; simp at this; lia⟩
  obtain ⟨f, hf⟩ := hs
  have a0 : wd code i = 13 := h.at 0
  have a2 : wd code (i + 2) = 21 := h.at 2
  have a3 : wd code (i + 2 + 1) = 16 := h.at 3
  have a4 : wd code (i + 2 + 1 + 1) = q := h.at 4
  have a5 : wd code (i + 2 + 1 + 2) = 16 := h.at 5
  have a6 : wd code (i + 2 + 1 + 2 + 1) = 92 := h.at 6
  have a7 : wd code (i + 2 + 1 + 2 + 2) = 0 := h.at 7
  rw [acc_in a0, hf, in_neg a2, in_lit a3 a4, in_lit a5 a6, in_end a7]
  show ∃ sn', (if (c == q) = true then _ else if (c == 92) = true then _ else _) = _
  cases c == q <;> cases c == 92 <;> exact ⟨_, rfl⟩
theorem acc_bits {i c : Nat} {ws : List Nat} {P : Nat → Bool} (hl : ws.length = 8) (h : Has code i (13 :: 12 :: 21 :: 9 :: (ws ++ [0]))) (hP : ∀ c, c < 256 → (ws.getD (c / 32) 0).testBit (c % 32) = P c) (hP' : ∀ c, 256 ≤ c → P c = false) (sn : Seen) :
    ∃ sn', accepts code i c sn = .ok (!P c, sn') := by
  have hlen : (13 :: 12 :: 21 :: 9 :: (ws ++ [0])).length = 13 := by simp [hl]
  have hs : ∃ f, code.size = f + 4 := ⟨code.size - 4, by have := h.1; rw [hlen] at this; lia⟩
  obtain ⟨f, hf⟩ := hs
  have e0 : wd code i = 13 := h.at 0 (by lia)
  have e2 : wd code (i + 2) = 21 := h.at 2 (by lia)
  have e3 : wd code (i + 2 + 1) = 9 := h.at 3 (by lia)
  have e12 : wd code (i + 2 + 1 + 9) = 0 := by
    refine (h.at 12 (by lia)).trans ?_
    show (13 :: 12 :: 21 :: 9 :: (ws ++ [0])).getD 12 0 = 0
    simp [List.getD_cons_succ, List.getD_eq_getElem?_getD, hl]
  rw [acc_in e0, hf, in_neg e2, in_set e3, in_end e12]
  by_cases hc : c < 256
  · have e : wd code (i + 2 + 1 + (1 + c / 32)) = ws.getD (c / 32) 0 := by
      have hlt : c / 32 < 8 := by lia
      rw [show i + 2 + 1 + (1 + c / 32) = i + (4 + c / 32) by lia, h.at (4 + c / 32) (by lia)]
      rw [show 4 + c / 32 = c / 32 + 1 + 1 + 1 + 1 by lia]
      simp only [List.getD_eq_getElem?_getD, List.getElem?_cons_succ]
      rw [List.getElem?_append_left (by rw [hl]; exact hlt)]
    rw [e, hP c hc]
    simp only [hc, decide_true, Bool.true_and]
    cases P c <;> exact ⟨_, rfl⟩
  · rw [hP' c (by lia)]
    simp only [hc, decide_false, Bool.false_and]
    exact ⟨_, rfl⟩
noncomputable def isOrd (c : Nat) : Bool := !(c == 34 || c == 35 || c == 39 || c == 40 || c == 41 || c == 91 || c == 92 || c == 93 || c == 123 || c == 125)
theorem acc6 (c : Nat) (sn : Seen) : ∃ sn', accepts c6 9 c sn = .ok (isOrd c, sn') :=
  acc_bits (code := c6) (i := 9) (ws := [0, 908, 939524096, 671088640, 0, 0, 0, 0]) (P := fun c => c == 34 || c == 35 || c == 39 || c == 40 || c == 41 || c == 91 || c == 92 || c == 93 || c == 123 || c == 125) rfl ⟨by decide, by decide⟩ (by decide +kernel) (fun c hc => by
    simp only [Bool.or_eq_false_iff, beq_eq_false_iff_ne]; lia) sn
noncomputable def isN1 (q c : Nat) : Bool := !(c == q || c == 92 || c == 10)
theorem acc_dq {i c : Nat} (h : Has code i [13, 12, 21, 9, 1024, 4, 268435456, 0, 0, 0, 0, 0, 0]) (sn : Seen) : ∃ sn', accepts code i c sn = .ok (isN1 34 c, sn') :=
  acc_bits (ws := [1024, 4, 268435456, 0, 0, 0, 0, 0]) (P := fun c => c == 34 || c == 92 || c == 10) rfl h (by decide +kernel) (fun c hc => by
    simp only [Bool.or_eq_false_iff, beq_eq_false_iff_ne]; lia) sn
theorem acc_sq {i c : Nat} (h : Has code i [13, 12, 21, 9, 1024, 128, 268435456, 0, 0, 0, 0, 0, 0]) (sn : Seen) : ∃ sn', accepts code i c sn = .ok (isN1 39 c, sn') :=
  acc_bits (ws := [1024, 128, 268435456, 0, 0, 0, 0, 0]) (P := fun c => c == 39 || c == 92 || c == 10) rfl h (by decide +kernel) (fun c hc => by
    simp only [Bool.or_eq_false_iff, beq_eq_false_iff_ne]; lia) sn
theorem end_mk {pc pos h : Nat} {o : Bool} {L : Array Loop} {I : Option Nat} {F : List Sre.Frame} (hF : F.all good = true) : Endd code text lim (F.length + 1) ⟨pc, pos, h, o, L, I, F, some true⟩ (some h) := end_up F rfl rfl hF
theorem chew_yes {p n h : Nat} {o : Bool} (hp : p ≤ lim) (hl : lim ≤ 100000) (hn : cnt1 isOrd text (lim - p) p = n) (h1 : 1 ≤ n) (h2 : n ≤ lim - p) : Endd c6 text lim 5 ⟨5, p, h, o, #[], none, [], none⟩ (some (p + n)) := by
  have a := go_run (code := c6) (text := text) (lim := lim) (g := ⟨5, p, h, o, #[], none, [], none⟩) (P := isOrd) (skip := 17) (least := 1) (most := 4294967295) (n := n) rfl (nleq rfl) rfl rfl rfl rfl hp (fun c sn => acc6 c sn) (by rw [Nat.min_eq_right (by lia)]; exact hn) h1 (show 1 ≤ lim - p by lia) (nleq rfl)
  refine (a.endd ?_).le (k := 1 + 4) (by decide)
  have b := go_succ (code := c6) (text := text) (lim := lim) (g := { (⟨5, p, h, o, #[], none, [], none⟩ : Cf) with pc := 23, pos := p + n, handed := p + n, frames := [{ wait := .giveBack, pc := 5, pos := p + n, outermost := o, count := n, kept := { whole := false } }] }) rfl (nleq rfl) rfl
  refine (b.endd ?_).le (k := 1 + 2) (by decide)
  refine (end_mk ?_).le ?_
  · rfl
  · exact nleq rfl
theorem chew_no {p h : Nat} {o : Bool} (hp : p ≤ lim) (hl : lim ≤ 100000) (hn : cnt1 isOrd text (lim - p) p = 0) : Endd c6 text lim 2 ⟨5, p, h, o, #[], none, [], none⟩ none := by
  have a := go_runN (code := c6) (text := text) (lim := lim) (g := ⟨5, p, h, o, #[], none, [], none⟩) (P := isOrd) (least := 1) (most := 4294967295) rfl (nleq rfl) rfl rfl rfl hp (fun c sn => acc6 c sn) (by rw [Nat.min_eq_right (by show lim - p ≤ _; lia)]; show cnt1 _ _ (lim - p) p < 1; lia)
  exact a.endd (end_no rfl rfl)
noncomputable def Fails (code text : Array Nat) (lim k : Nat) (g : Cf) (F : List Sre.Frame) (L : Array Loop) (I : Option Nat) : Prop := ∃ g', Go code text lim k g g' ∧ g'.ans = some false ∧ g'.frames = F ∧ g'.loops = L ∧ g'.inner = I
noncomputable def isBl (c : Nat) : Bool := c == 32 || c == 9
theorem acc_bl (c : Nat) (sn : Seen) : ∃ sn', accepts c2 9 c sn = .ok (isBl c, sn') := by
  rw [acc_in rfl, show c2.size = 35 + 1 + 1 + 1 from rfl, in_lit (w := 32) rfl rfl, in_lit (w := 9) rfl rfl, in_end rfl]
  unfold isBl
  cases c == 32 <;> cases c == 9 <;> exact ⟨_, rfl⟩
theorem acc_ns (c : Nat) (sn : Seen) : ∃ sn', accepts c2 23 c sn = .ok (!Unicode.isSpace c, sn') := by
  have hc : category 13 c = .ok (!Unicode.isSpace c) := by
    show Except.ok (Unicode.isSpace c != true) = _
    cases Unicode.isSpace c <;> rfl
  rw [acc_in rfl, show c2.size = 36 + 1 + 1 from rfl, in_cat (w := 13) rfl rfl hc, in_end rfl]
  cases Unicode.isSpace c <;> exact ⟨_, rfl⟩
noncomputable abbrev moreL (x : Nat) : Array Loop := #[{ pc := 17, count := -1 + 1, began := some x, outer := none }]
noncomputable abbrev clF (x : Nat) (o : Bool) : Sre.Frame := { wait := .closeLoop, pc := 17, pos := x, outermost := o, loop := 0 }
noncomputable abbrev moF (x : Nat) (o : Bool) : Sre.Frame := { wait := .maxMore, pc := 35, pos := x, outermost := o, count := -1 + 1, kept := { whole := true }, loop := 0, began := none }
theorem junk_in {x h : Nat} {o : Bool} {F : List Sre.Frame} (hF : F.length + 10 ≤ 16777216) : Go c2 text lim 2 ⟨17, x, h, o, #[], none, F, none⟩ ⟨21, x, x, o, moreL x, some 0, moF x o :: clF x o :: F, none⟩ := by
  have a := go_rep (code := c2) (text := text) (lim := lim) (g := ⟨17, x, h, o, #[], none, F, none⟩) (w := 16) rfl (nleq rfl) rfl rfl (by show F.length + 1 ≤ _; lia)
  have b := go_more (code := c2) (text := text) (lim := lim) (g := ⟨34, x, x, o, #[{ pc := 17, outer := none }], some 0, clF x o :: F, none⟩) (i := 0) (most := 1) (l := { pc := 17, outer := none }) (L' := moreL x) rfl (nleq rfl) rfl rfl rfl rfl rfl (by decide) (.inl (by decide)) (by simp) rfl (by show F.length + 1 + 1 ≤ _; lia)
  exact a.trans b
theorem junk_out {pc pos h x : Nat} {o o' : Bool} {F : List Sre.Frame} (hF : F.length + 10 ≤ 16777216) : Go c2 text lim 1 ⟨pc, pos, h, o', moreL x, some 0, moF x o :: clF x o :: F, some false⟩ ⟨35, x, x, o, #[{ pc := 17, outer := none }], none, { wait := .maxTail, pc := 35, pos := x, outermost := o, count := -1 + 1, loop := 0 } :: clF x o :: F, none⟩ :=
  go_mmore (code := c2) (text := text) (lim := lim) (g := ⟨pc, pos, h, o', moreL x, some 0, moF x o :: clF x o :: F, some false⟩) (f := moF x o) (rest := clF x o :: F) (o := none) (L' := #[{ pc := 17, outer := none }]) rfl rfl rfl rfl rfl rfl (by show F.length + 1 + 1 ≤ _; lia)
theorem junk_body {x : Nat} {o : Bool} {L : Array Loop} {I : Option Nat} {F : List Sre.Frame} (h35 : x < lim → text.getD x 0 = 35 → x + 1 < lim → Unicode.isSpace (text.getD (x + 1) 0) = true) :
    ∃ pc pos h, Go c2 text lim 2 ⟨21, x, x, o, L, I, F, none⟩ ⟨pc, pos, h, o, L, I, F, some false⟩ := by
  by_cases h : x < lim ∧ text.getD x 0 = 35
  · have a := go_lit (code := c2) (text := text) (lim := lim) (g := ⟨21, x, x, o, L, I, F, none⟩) (c := 35) rfl (nleq rfl) rfl rfl h.1 h.2
    have b := go_inN (code := c2) (text := text) (lim := lim) (g := ⟨23, x + 1, x, o, L, I, F, none⟩) rfl (nleq rfl) rfl (fun hl sn => by
      have := acc_ns (text.getD (x + 1) 0) sn
      rwa [h35 h.1 h.2 hl] at this)
    exact ⟨_, _, _, a.trans b⟩
  · exact ⟨_, _, _, (go_litN (code := c2) (text := text) (lim := lim) (g := ⟨21, x, x, o, L, I, F, none⟩) (c := 35) rfl (nleq rfl) rfl rfl (fun hl e => h ⟨hl, e⟩)).le (by decide)⟩
theorem junk_fails {x h : Nat} {o : Bool} {F : List Sre.Frame} (hF : F.length + 10 ≤ 16777216) (h10 : x < lim → text.getD x 0 ≠ 10) (h35 : x < lim → text.getD x 0 = 35 → x + 1 < lim → Unicode.isSpace (text.getD (x + 1) 0) = true) :
    Fails c2 text lim 8 ⟨17, x, h, o, #[], none, F, none⟩ F #[] none := by
  obtain ⟨pc, pos, h', b⟩ := junk_body (L := moreL x) (o := o) (I := some 0) (F := moF x o :: clF x o :: F) h35
  have c := junk_out (text := text) (lim := lim) (pc := pc) (pos := pos) (h := h') (x := x) (o := o) (o' := o) hF
  have d := go_litN (code := c2) (text := text) (lim := lim) (g := ⟨35, x, x, o, #[{ pc := 17, outer := none }], none, { wait := .maxTail, pc := 35, pos := x, outermost := o, count := -1 + 1, loop := 0 } :: clF x o :: F, none⟩) (c := 10) rfl (nleq rfl) rfl rfl h10
  have e := go_mtail (code := c2) (text := text) (lim := lim) (g := ⟨35, x, x, o, #[{ pc := 17, outer := none }], none, { wait := .maxTail, pc := 35, pos := x, outermost := o, count := -1 + 1, loop := 0 } :: clF x o :: F, some false⟩) rfl rfl rfl rfl
  have f := go_close (code := c2) (text := text) (lim := lim) (g := ⟨35, x, x, o, #[{ pc := 17, outer := none }], some 0, clF x o :: F, some false⟩) (l := { pc := 17, outer := none }) (L' := #[]) rfl rfl rfl rfl rfl rfl
  exact ⟨_, ((((junk_in hF).trans b).trans c).trans d).trans (e.trans f), rfl, rfl, rfl, rfl⟩
theorem cnt1_le {P : Nat → Bool} : ∀ (n p : Nat), cnt1 P text n p ≤ n
  | 0, p => Nat.le_refl _
  | n + 1, p => by
    unfold cnt1
    split
    · exact Nat.succ_le_succ (cnt1_le n (p + 1))
    · exact Nat.zero_le _
theorem cnt1_all {P : Nat → Bool} : ∀ (n p j : Nat), j < cnt1 P text n p → P (text.getD (p + j) 0) = true
  | 0, p, j, h => by unfold cnt1 at h; lia
  | n + 1, p, j, h => by
    unfold cnt1 at h
    split at h
    · rename_i hp
      cases j with
      | zero => exact hp
      | succ j => rw [show p + (j + 1) = p + 1 + j by lia]; exact cnt1_all n (p + 1) j (by lia)
    · lia
theorem cnt1_stop {P : Nat → Bool} : ∀ (n p : Nat), cnt1 P text n p < n → P (text.getD (p + cnt1 P text n p) 0) = false
  | 0, p, h => by lia
  | n + 1, p, h => by
    unfold cnt1 at h ⊢
    split
    · rename_i hp
      rw [if_pos hp] at h
      rw [show p + (cnt1 P text n (p + 1) + 1) = p + 1 + cnt1 P text n (p + 1) by lia]
      exact cnt1_stop n (p + 1) (by lia)
    · rename_i hp; simpa using hp
noncomputable abbrev giF (n x : Nat) (o : Bool) : Sre.Frame := { wait := .giveBack, pc := 5, pos := x, outermost := o, count := n, kept := { whole := false } }
theorem junk_back {p : Nat} {o : Bool} : ∀ (n : Nat) {g : Cf}, (∀ j, j < n → isBl (text.getD (p + j) 0) = true) → g.ans = some false → g.frames = [giF n (p + n) o] → g.loops = #[] → g.inner = none → Endd c2 text lim (9 * n + 2) g none
  | 0, g, hb, ha, hf, hl, hi => by
    have a := go_give0 (code := c2) (text := text) (lim := lim) (b := false) (n := 0) (least := 0) ha hf rfl rfl rfl rfl (Nat.le_refl _) (.inl rfl)
    exact a.endd (end_no ha rfl)
  | n + 1, g, hb, ha, hf, hl, hi => by
    obtain ⟨pc, pos, h, o', L, I, F, an⟩ := g
    dsimp only at ha hf hl hi
    subst ha hf hl hi
    have a := go_give (code := c2) (text := text) (lim := lim) (g := ⟨pc, pos, h, o', #[], none, [giF (n + 1) (p + (n + 1)) o], some false⟩) (f := giF (n + 1) (p + (n + 1)) o) (rest := []) (b := false) (n := n) (skip := 11) rfl rfl rfl rfl rfl rfl rfl (nleq rfl)
    have hbn := hb n (by lia)
    have hbl : text.getD (p + n) 0 = 32 ∨ text.getD (p + n) 0 = 9 := by simpa [isBl] using hbn
    obtain ⟨g', b, h1, h2, h3, h4⟩ := junk_fails (text := text) (lim := lim) (x := p + n) (h := p + n) (o := o) (F := [giF n (p + n) o]) (nleq rfl) (fun _ e => by lia) (fun _ e => by lia)
    exact ((a.trans b).endd (junk_back n (fun j hj => hb j (by lia)) h1 h2 h3 h4)).le (by lia)
theorem junk_run {p n h : Nat} {o : Bool} (hp : p ≤ lim) (hl : lim ≤ 100000) (hn : cnt1 isBl text (lim - p) p = n) : Go c2 text lim 1 ⟨5, p, h, o, #[], none, [], none⟩ ⟨17, p + n, p + n, o, #[], none, [giF n (p + n) o], none⟩ :=
  go_run (code := c2) (text := text) (lim := lim) (g := ⟨5, p, h, o, #[], none, [], none⟩) (P := isBl) (skip := 11) (least := 0) (most := 4294967295) (n := n) rfl (nleq rfl) rfl rfl rfl rfl hp (fun c sn => acc_bl c sn) (by rw [Nat.min_eq_right (by show lim - p ≤ _; lia)]; exact hn) (Nat.zero_le _) (Nat.zero_le _) (nleq rfl)
theorem junk_no {p n h : Nat} {o : Bool} (hp : p ≤ lim) (hl : lim ≤ 100000) (hn : cnt1 isBl text (lim - p) p = n) (h10 : p + n < lim → text.getD (p + n) 0 ≠ 10) (h35 : p + n < lim → text.getD (p + n) 0 = 35 → p + n + 1 < lim → Unicode.isSpace (text.getD (p + n + 1) 0) = true) :
    Endd c2 text lim (9 * lim + 20) ⟨5, p, h, o, #[], none, [], none⟩ none := by
  obtain ⟨g', b, h1, h2, h3, h4⟩ := junk_fails (text := text) (lim := lim) (x := p + n) (h := p + n) (o := o) (F := [giF n (p + n) o]) (nleq rfl) h10 h35
  have hle : n ≤ lim - p := hn ▸ cnt1_le _ _
  exact (((junk_run hp hl hn).trans b).endd (junk_back n (fun j hj => cnt1_all (lim - p) p j (by lia)) h1 h2 h3 h4)).le (by lia)
theorem junk_yes0 {p n h : Nat} {o : Bool} (hp : p ≤ lim) (hl : lim ≤ 100000) (hn : cnt1 isBl text (lim - p) p = n) (hx : p + n < lim) (h10 : text.getD (p + n) 0 = 10) :
    Endd c2 text lim 20 ⟨5, p, h, o, #[], none, [], none⟩ (some (p + n + 1)) := by
  obtain ⟨pc, pos, h', b⟩ := junk_body (text := text) (lim := lim) (x := p + n) (L := moreL (p + n)) (o := o) (I := some 0) (F := moF (p + n) o :: clF (p + n) o :: [giF n (p + n) o]) (fun _ e => by lia)
  have c := junk_out (text := text) (lim := lim) (pc := pc) (pos := pos) (h := h') (x := p + n) (o := o) (o' := o) (F := [giF n (p + n) o]) (nleq rfl)
  have d := go_lit (code := c2) (text := text) (lim := lim) (g := ⟨35, p + n, p + n, o, #[{ pc := 17, outer := none }], none, { wait := .maxTail, pc := 35, pos := p + n, outermost := o, count := -1 + 1, loop := 0 } :: clF (p + n) o :: [giF n (p + n) o], none⟩) (c := 10) rfl (nleq rfl) rfl rfl hx h10
  have e := go_succ (code := c2) (text := text) (lim := lim) (g := ⟨37, p + n + 1, p + n, o, #[{ pc := 17, outer := none }], none, { wait := .maxTail, pc := 35, pos := p + n, outermost := o, count := -1 + 1, loop := 0 } :: clF (p + n) o :: [giF n (p + n) o], none⟩) rfl (nleq rfl) rfl
  refine (((junk_run hp hl hn).trans (((junk_in (nleq rfl)).trans b).trans c)).trans (d.trans e)).endd (k' := 4) ?_ |>.le (nleq rfl)
  exact end_mk (F := [{ wait := .maxTail, pc := 35, pos := p + n, outermost := o, count := -1 + 1, loop := 0 }, clF (p + n) o, giF n (p + n) o]) rfl
theorem junk_yes1 {p n n2 h : Nat} {o : Bool} (hp : p ≤ lim) (hl : lim ≤ 100000) (hn : cnt1 isBl text (lim - p) p = n) (hx : p + n + 1 < lim) (h35 : text.getD (p + n) 0 = 35) (hs : Unicode.isSpace (text.getD (p + n + 1) 0) = false)
    (hn2 : cnt1 (fun c => c != 10) text (lim - (p + n + 2)) (p + n + 2) = n2) (hy : p + n + 2 + n2 < lim) (h10 : text.getD (p + n + 2 + n2) 0 = 10) :
    Endd c2 text lim 20 ⟨5, p, h, o, #[], none, [], none⟩ (some (p + n + 2 + n2 + 1)) := by
  let F : List Sre.Frame := moF (p + n) o :: clF (p + n) o :: [giF n (p + n) o]
  let G : Sre.Frame := { wait := .giveBack, pc := 28, pos := p + n + 2 + n2, outermost := o, count := n2, kept := { whole := true } }
  let T : Sre.Frame := { wait := .maxTail, pc := 35, pos := p + n + 2 + n2, outermost := o, count := -1 + 1 + 1, loop := 0 }
  have a := go_lit (code := c2) (text := text) (lim := lim) (g := ⟨21, p + n, p + n, o, moreL (p + n), some 0, F, none⟩) (c := 35) rfl (nleq rfl) rfl rfl (show p + n < lim by lia) h35
  have b := go_in (code := c2) (text := text) (lim := lim) (g := ⟨23, p + n + 1, p + n, o, moreL (p + n), some 0, F, none⟩) (w := 4) rfl (nleq rfl) rfl rfl hx (fun sn => by have := acc_ns (text.getD (p + n + 1) 0) sn; rwa [hs] at this)
  have c := go_run (code := c2) (text := text) (lim := lim) (g := ⟨28, p + n + 2, p + n, o, moreL (p + n), some 0, F, none⟩) (P := fun c => c != 10) (skip := 5) (least := 0) (most := 4294967295) (n := n2) rfl (nleq rfl) rfl rfl rfl rfl (show p + n + 2 ≤ lim by lia) (fun c sn => ⟨sn, acc_any rfl⟩) (by rw [Nat.min_eq_right (by show lim - (p + n + 2) ≤ _; lia)]; exact hn2) (Nat.zero_le _) (Nat.zero_le _) (nleq rfl)
  have d := go_tail (code := c2) (text := text) (lim := lim) (g := ⟨34, p + n + 2 + n2, p + n + 2 + n2, o, moreL (p + n), some 0, G :: F, none⟩) (i := 0) (most := 1) (l := { pc := 17, count := -1 + 1, began := some (p + n), outer := none }) rfl (nleq rfl) rfl rfl rfl rfl rfl (show (-1 : Int) ≤ -1 + 1 by decide) ⟨(show ¬ ((-1 : Int) + 1 + 1 < ((1 : Nat) : Int)) by decide), by decide⟩ (nleq rfl)
  have e := go_lit (code := c2) (text := text) (lim := lim) (g := ⟨35, p + n + 2 + n2, p + n + 2 + n2, o, moreL (p + n), none, T :: G :: F, none⟩) (c := 10) rfl (nleq rfl) rfl rfl hy h10
  have f := go_succ (code := c2) (text := text) (lim := lim) (g := ⟨37, p + n + 2 + n2 + 1, p + n + 2 + n2, o, moreL (p + n), none, T :: G :: F, none⟩) rfl (nleq rfl) rfl
  refine ((((junk_run hp hl hn).trans (junk_in (nleq rfl))).trans ((a.trans b).trans (c.trans d))).trans (e.trans f)).endd (k' := 6) ?_ |>.le (nleq rfl)
  exact end_mk (F := T :: G :: F) rfl
end
noncomputable def t3 (q j : Nat) : List Nat := [16, q, 16, q, 16, q, 24, 12, 0, 4294967295, 13, 7, 21, 16, q, 16, 92, 0, 1, 23, 37, 0, 4294967295, 7, 6, 16, 92, 3, 15, 15, 13, 16, q, 5, 7, 0, 16, q, 16, q, 1, 15, 2, 0, 24, 12, 0, 4294967295, 13, 7, 21, 16, q, 16, 92, 0, 1, 18, 23, 9, 0, 1, 16, q, 16, q, 16, q, 18, 15, j]
noncomputable def t1 (q W j : Nat) : List Nat := [16, q, 24, 17, 0, 4294967295, 13, 12, 21, 9, 1024, W, 268435456, 0, 0, 0, 0, 0, 0, 1, 23, 24, 0, 4294967295, 16, 92, 3, 24, 17, 0, 4294967295, 13, 12, 21, 9, 1024, W, 268435456, 0, 0, 0, 0, 0, 0, 1, 18, 24, 6, 0, 1, 16, q, 1, 15, j]
theorem Has.sub {code : Array Nat} {b : Nat} {ws : List Nat} (h : Has code b ws) (i n : Nat) (hi : i + n ≤ ws.length) : Has code (b + i) ((ws.drop i).take n) := by
  have hl : ((ws.drop i).take n).length = n := by rw [List.length_take, List.length_drop]; lia
  refine ⟨by have := h.1; lia, fun j hj => ?_⟩
  rw [hl] at hj
  rw [show b + i + j = b + (i + j) by lia, h.2 (i + j) (by lia)]
  simp only [List.getD_eq_getElem?_getD]
  rw [List.getElem?_take_of_lt hj, List.getElem?_drop]
section
variable {code : Array Nat} {l : List Nat} {lim b q j : Nat}
theorem at_is {x c : Nat} (h : l[x]? = some c) : l.toArray.getD x 0 = c := by
  rw [Array.getD_eq_getD_getElem?]; simp [h]
theorem is_at {x : Nat} (h : x < l.length) : ∃ c, l[x]? = some c ∧ l.toArray.getD x 0 = c := ⟨l[x], List.getElem?_eq_getElem h, at_is (List.getElem?_eq_getElem h)⟩
theorem at_ne {x c : Nat} (h : l[x]? ≠ some c) (hx : x < l.length) : l.toArray.getD x 0 ≠ c := fun e => by
  obtain ⟨d, h1, h2⟩ := is_at hx
  exact h (by rw [h1, ← h2, e])
noncomputable abbrev gF (r n x : Nat) (o b : Bool) : Sre.Frame := { wait := .giveBack, pc := r, pos := x, outermost := o, count := n, kept := { whole := b } }
theorem run3 {r x h e : Nat} {o : Bool} {L : Array Loop} {I : Option Nat} {F : List Sre.Frame} (hr : Has code r [24, 12, 0, 4294967295, 13, 7, 21, 16, q, 16, 92, 0, 1]) (hl : lim ≤ l.length) (hl' : lim ≤ 100000) (hx : x ≤ lim) (hs : Scan3 l q x e) (he : e ≤ lim) (hF : F.length + 1 ≤ 16777216) :
    ∃ n, Go code l.toArray lim 1 ⟨r, x, h, o, L, I, F, none⟩ ⟨r + 13, x + n, x + n, o, L, I, gF r n (x + n) o I.isSome :: F, none⟩ ∧ Scan3 l q (x + n) e ∧ (x + n = e ∨ l[x + n]? = some q ∨ l[x + n]? = some 92) := by
  have hacc : ∀ c sn, ∃ sn', accepts code (r + 4) c sn = .ok (!(c == q || c == 92), sn') := fun c sn => acc_nq (hr.sub 4 8 (nleq rfl)) sn
  have hle := cnt1_le (text := l.toArray) (P := fun c => !(c == q || c == 92)) (lim - x) x
  have hall := cnt1_all (text := l.toArray) (P := fun c => !(c == q || c == 92)) (lim - x) x
  have hstop := cnt1_stop (text := l.toArray) (P := fun c => !(c == q || c == 92)) (lim - x) x
  have go := go_run (code := code) (text := l.toArray) (lim := lim) (g := ⟨r, x, h, o, L, I, F, none⟩) (P := fun c => !(c == q || c == 92)) (skip := 12) (least := 0) (most := 4294967295) rfl (hr.lt 0 (nleq rfl)) (hr.at 0 (nleq rfl)) (hr.at 1 (nleq rfl)) (hr.at 2 (nleq rfl)) (hr.at 3 (nleq rfl)) hx hacc rfl (Nat.zero_le _) (Nat.zero_le _) hF
  rw [show min 4294967295 (lim - (⟨r, x, h, o, L, I, F, none⟩ : Cf).pos) = lim - x from Nat.min_eq_right (by show lim - x ≤ _; lia)] at go
  generalize hn : cnt1 (fun c => !(c == q || c == 92)) l.toArray (lim - x) x = n at hle hall hstop
  have hs' : Scan3 l q (x + n) e := hs.skip n fun j hj => by
    obtain ⟨c, h1, h2⟩ := is_at (l := l) (x := x + j) (by lia)
    have := hall j hj
    rw [h2] at this
    simp only [Bool.not_eq_true', Bool.or_eq_false_iff, beq_eq_false_iff_ne] at this
    exact ⟨c, h1, this.1, this.2⟩
  refine ⟨n, ?_, hs', ?_⟩
  · have e : (⟨r, x, h, o, L, I, F, none⟩ : Cf).pos = x := rfl
    simp only [hn] at go
    exact go
  · by_cases hlt : n < lim - x
    · obtain ⟨c, h1, h2⟩ := is_at (l := l) (x := x + n) (by lia)
      have := hstop hlt
      rw [h2] at this
      simp only [Bool.not_eq_false', Bool.or_eq_true, beq_iff_eq] at this
      rcases this with rfl | rfl
      · exact .inr (.inl h1)
      · exact .inr (.inr h1)
    · have := hs'.le
      exact .inl (by lia)
theorem run1 {W r x h e : Nat} {o : Bool} {L : Array Loop} {I : Option Nat} {F : List Sre.Frame} (hr : Has code r [24, 17, 0, 4294967295, 13, 12, 21, 9, 1024, W, 268435456, 0, 0, 0, 0, 0, 0, 1]) (hq : q = 34 ∧ W = 4 ∨ q = 39 ∧ W = 128) (hl : lim ≤ l.length) (hl' : lim ≤ 100000) (hx : x ≤ lim) (hs : Scan1 l q x e) (he : e ≤ lim) (hF : F.length + 1 ≤ 16777216) :
    ∃ n, Go code l.toArray lim 1 ⟨r, x, h, o, L, I, F, none⟩ ⟨r + 18, x + n, x + n, o, L, I, gF r n (x + n) o I.isSome :: F, none⟩ ∧ Scan1 l q (x + n) e ∧ (x + n = e ∨ l[x + n]? = some q ∨ l[x + n]? = some 92 ∨ l[x + n]? = some 10) := by
  have hacc : ∀ c sn, ∃ sn', accepts code (r + 4) c sn = .ok (isN1 q c, sn') := fun c sn => by
    have := hr.sub 4 13 (nleq rfl)
    rcases hq with ⟨rfl, rfl⟩ | ⟨rfl, rfl⟩
    · exact acc_dq this sn
    · exact acc_sq this sn
  have hle := cnt1_le (text := l.toArray) (P := isN1 q) (lim - x) x
  have hall := cnt1_all (text := l.toArray) (P := isN1 q) (lim - x) x
  have hstop := cnt1_stop (text := l.toArray) (P := isN1 q) (lim - x) x
  have go := go_run (code := code) (text := l.toArray) (lim := lim) (g := ⟨r, x, h, o, L, I, F, none⟩) (P := isN1 q) (skip := 17) (least := 0) (most := 4294967295) rfl (hr.lt 0 (nleq rfl)) (hr.at 0 (nleq rfl)) (hr.at 1 (nleq rfl)) (hr.at 2 (nleq rfl)) (hr.at 3 (nleq rfl)) hx hacc rfl (Nat.zero_le _) (Nat.zero_le _) hF
  rw [show min 4294967295 (lim - (⟨r, x, h, o, L, I, F, none⟩ : Cf).pos) = lim - x from Nat.min_eq_right (by show lim - x ≤ _; lia)] at go
  generalize hn : cnt1 (isN1 q) l.toArray (lim - x) x = n at hle hall hstop
  have hs' : Scan1 l q (x + n) e := hs.skip n fun j hj => by
    obtain ⟨c, h1, h2⟩ := is_at (l := l) (x := x + j) (by lia)
    have := hall j hj
    rw [h2] at this
    simp only [isN1, Bool.not_eq_true', Bool.or_eq_false_iff, beq_eq_false_iff_ne] at this
    exact ⟨c, h1, this.1.1, this.1.2, this.2⟩
  refine ⟨n, ?_, hs', ?_⟩
  · simp only [hn] at go
    exact go
  · by_cases hlt : n < lim - x
    · obtain ⟨c, h1, h2⟩ := is_at (l := l) (x := x + n) (by lia)
      have := hstop hlt
      rw [h2] at this
      simp only [isN1, Bool.not_eq_false', Bool.or_eq_true, beq_iff_eq] at this
      rcases this with (rfl | rfl) | rfl
      · exact .inr (.inl h1)
      · exact .inr (.inr (.inl h1))
      · exact .inr (.inr (.inr h1))
    · have := hs'.le
      exact .inl (by lia)
end
section
variable {code : Array Nat} {l : List Nat} {lim b q j : Nat}
noncomputable abbrev lpA (pc : Nat) (c : Int) (bg : Option Nat) : Loop := { pc, count := c, began := bg, outer := none }
noncomputable abbrev mF (pc x i : Nat) (c : Int) (o : Bool) (bg : Option Nat) : Sre.Frame := { wait := .maxMore, pc, pos := x, outermost := o, count := c, kept := { whole := true }, loop := i, began := bg }
noncomputable abbrev bF (pc x : Nat) (o b : Bool) : Sre.Frame := { wait := .nextBranch, pc, pos := x, outermost := o, kept := { whole := b } }
noncomputable abbrev tF (pc x i : Nat) (c : Int) (o : Bool) : Sre.Frame := { wait := .maxTail, pc, pos := x, outermost := o, count := c, loop := i }
theorem loop3_in (H : Has code b (t3 q j)) {x h : Nat} {o : Bool} {c : Int} {bg : Option Nat} {F : List Sre.Frame} (hc : -1 ≤ c) (hb : bg ≠ some x) (hF : F.length + 10 ≤ 16777216) :
    Go code l.toArray lim 2 ⟨b + 57, x, h, o, #[lpA (b + 19) c bg], some 0, F, none⟩ ⟨b + 25, x, x, o, #[lpA (b + 19) (c + 1) (some x)], some 0, bF (b + 24) x o true :: mF (b + 58) x 0 (c + 1) o bg :: F, none⟩ := by
  have a := go_more (code := code) (text := l.toArray) (lim := lim) (g := ⟨b + 57, x, h, o, #[lpA (b + 19) c bg], some 0, F, none⟩) (i := 0) (most := 4294967295) (l := lpA (b + 19) c bg) (L' := #[lpA (b + 19) (c + 1) (some x)]) rfl (H.lt 57) (H.at 57) rfl rfl (H.at 21) (H.at 22) hc (.inr rfl) hb rfl (by show F.length + 1 ≤ _; lia)
  have d := go_branch (code := code) (text := l.toArray) (lim := lim) (g := ⟨b + 23, x, x, o, #[lpA (b + 19) (c + 1) (some x)], some 0, mF (b + 58) x 0 (c + 1) o bg :: F, none⟩) (w := 6) rfl (H.lt 23) (H.at 23) (H.at 24) (by decide) (by show F.length + 1 + 1 ≤ _; lia)
  exact a.trans d
theorem loop3_out (H : Has code b (t3 q j)) {x pc pos h : Nat} {o o' : Bool} {c : Int} {bg : Option Nat} {F : List Sre.Frame} (hF : F.length + 10 ≤ 16777216) :
    Go code l.toArray lim 2 ⟨pc, pos, h, o', #[lpA (b + 19) (c + 1) (some x)], some 0, bF (b + 30) x o true :: mF (b + 58) x 0 (c + 1) o bg :: F, some false⟩ ⟨b + 58, x, x, o, #[lpA (b + 19) (c + 1 - 1) bg], none, tF (b + 58) x 0 (c + 1) o :: F, none⟩ := by
  have a := go_lastB (code := code) (text := l.toArray) (lim := lim) (g := ⟨pc, pos, h, o', #[lpA (b + 19) (c + 1) (some x)], some 0, bF (b + 30) x o true :: mF (b + 58) x 0 (c + 1) o bg :: F, some false⟩) (f := bF (b + 30) x o true) (w := 13) (b := true) rfl rfl rfl rfl (H.at 30) (H.at 43)
  have d := go_mmore (code := code) (text := l.toArray) (lim := lim) (g := ⟨b + 30, x, h, o, #[lpA (b + 19) (c + 1) (some x)], some 0, mF (b + 58) x 0 (c + 1) o bg :: F, some false⟩) (f := mF (b + 58) x 0 (c + 1) o bg) (rest := F) (o := none) (L' := #[lpA (b + 19) (c + 1 - 1) bg]) rfl rfl rfl rfl rfl rfl (by lia)
  exact a.trans d
theorem loop3_alt2 (H : Has code b (t3 q j)) {x h : Nat} {o : Bool} {L : Array Loop} {I : Option Nat} {F : List Sre.Frame} (hF : F.length + 10 ≤ 16777216) (h92 : x < lim → l.toArray.getD x 0 ≠ 92) :
    Go code l.toArray lim 2 ⟨b + 25, x, h, o, L, I, bF (b + 24) x o true :: F, none⟩ ⟨b + 31, x, x, o, L, I, bF (b + 30) x o true :: F, none⟩ := by
  have a := go_litN (code := code) (text := l.toArray) (lim := lim) (g := ⟨b + 25, x, h, o, L, I, bF (b + 24) x o true :: F, none⟩) (c := 92) rfl (H.lt 25) (H.at 25) (H.at 26) h92
  have d := go_nextB (code := code) (text := l.toArray) (lim := lim) (g := ⟨b + 25, x, h, o, L, I, bF (b + 24) x o true :: F, some false⟩) (f := bF (b + 24) x o true) (w := 6) (b := true) rfl rfl rfl rfl (H.at 24) (by rw [show wd code (b + 24 + 6) = 13 from H.at 30]; decide) (by lia)
  exact a.trans d
theorem loop3 (H : Has code b (t3 q j)) (hq : q ≠ 92) (hl : lim ≤ l.length) (hl' : lim ≤ 100000) {e : Nat} (hE : (e = l.length ∧ lim = l.length) ∨ (Hit3 l q e ∧ e + 3 ≤ lim)) {o : Bool} : ∀ (m x h : Nat) (F : List Sre.Frame) (c : Int) (bg : Option Nat), e - x ≤ m → Scan3 l q x e → (x = e ∨ l[x]? = some q ∨ l[x]? = some 92) → -1 ≤ c → (∀ y, bg = some y → y < x) → F.all good = true → F.length + 3 * m + 20 ≤ 16777216 →
    ∃ L F' h', F'.all good = true ∧ F'.length ≤ F.length + 3 * m + 1 ∧ Go code l.toArray lim (14 * m + 14) ⟨b + 57, x, h, o, #[lpA (b + 19) c bg], some 0, F, none⟩ ⟨b + 58, e, h', o, #[L], none, F', none⟩ := by
  intro m
  induction m with
  | zero =>
    intro x h F c bg hm hs hx hc hb hF hw
    have hxe : x = e := by have := hs.le; lia
    subst hxe
    have a := loop3_in (l := l) (lim := lim) (h := h) (o := o) (F := F) H hc (fun e => Nat.lt_irrefl _ (hb _ e)) (by lia)
    have z := @loop3_out code l lim b q j H
    refine ⟨lpA (b + 19) (c + 1 - 1) bg, tF (b + 58) x 0 (c + 1) o :: F, x, ?_, ?_, ?_⟩
    · rw [List.all_cons, hF]; rfl
    · show F.length + 1 ≤ _; lia
    rcases hE with ⟨h1, h2⟩ | ⟨hh, h2⟩
    · have d := loop3_alt2 (l := l) (lim := lim) (x := x) (h := x) (o := o) (L := #[lpA (b + 19) (c + 1) (some x)]) (I := some 0) (F := mF (b + 58) x 0 (c + 1) o bg :: F) H (by show F.length + 1 + 10 ≤ _; lia) (fun h => by lia)
      have f := go_litN (code := code) (text := l.toArray) (lim := lim) (g := ⟨b + 31, x, x, o, #[lpA (b + 19) (c + 1) (some x)], some 0, bF (b + 30) x o true :: mF (b + 58) x 0 (c + 1) o bg :: F, none⟩) (c := q) rfl (H.lt 31) (H.at 31) (H.at 32) (fun h => by have : x < lim := h; lia)
      exact (((a.trans d).trans f).trans (z (by lia))).le (by lia)
    · have e0 := at_is hh.1
      have e1 := at_is hh.2.1
      have e2 := at_is hh.2.2
      have d := loop3_alt2 (l := l) (lim := lim) (x := x) (h := x) (o := o) (L := #[lpA (b + 19) (c + 1) (some x)]) (I := some 0) (F := mF (b + 58) x 0 (c + 1) o bg :: F) H (by show F.length + 1 + 10 ≤ _; lia) (fun h => by rw [e0]; exact hq)
      have f := go_lit (code := code) (text := l.toArray) (lim := lim) (g := ⟨b + 31, x, x, o, #[lpA (b + 19) (c + 1) (some x)], some 0, bF (b + 30) x o true :: mF (b + 58) x 0 (c + 1) o bg :: F, none⟩) (c := q) rfl (H.lt 31) (H.at 31) (H.at 32) (show x < lim by lia) e0
      have g := go_not (code := code) (text := l.toArray) (lim := lim) (g := ⟨b + 33, x + 1, x, o, #[lpA (b + 19) (c + 1) (some x)], some 0, bF (b + 30) x o true :: mF (b + 58) x 0 (c + 1) o bg :: F, none⟩) (w := 0) rfl (H.lt 33) (H.at 33) (H.at 35) (by show F.length + 1 + 1 + 1 ≤ _; lia)
      let K : Sre.Frame := { wait := .lookNot, pc := b + 33, pos := x + 1, outermost := o, kept := { whole := true } }
      have i := go_lit (code := code) (text := l.toArray) (lim := lim) (g := ⟨b + 36, x + 1, x + 1, false, #[lpA (b + 19) (c + 1) (some x)], some 0, K :: bF (b + 30) x o true :: mF (b + 58) x 0 (c + 1) o bg :: F, none⟩) (c := q) rfl (H.lt 36) (H.at 36) (H.at 37) (show x + 1 < lim by lia) e1
      have i2 := go_lit (code := code) (text := l.toArray) (lim := lim) (g := ⟨b + 38, x + 1 + 1, x + 1, false, #[lpA (b + 19) (c + 1) (some x)], some 0, K :: bF (b + 30) x o true :: mF (b + 58) x 0 (c + 1) o bg :: F, none⟩) (c := q) rfl (H.lt 38) (H.at 38) (H.at 39) (show x + 1 + 1 < lim by lia) e2
      have i3 := go_succ (code := code) (text := l.toArray) (lim := lim) (g := ⟨b + 40, x + 1 + 1 + 1, x + 1, false, #[lpA (b + 19) (c + 1) (some x)], some 0, K :: bF (b + 30) x o true :: mF (b + 58) x 0 (c + 1) o bg :: F, none⟩) rfl (H.lt 40) (H.at 40)
      have i4 := go_lookY (code := code) (text := l.toArray) (lim := lim) (g := ⟨b + 40, x + 1 + 1 + 1, x + 1 + 1 + 1, false, #[lpA (b + 19) (c + 1) (some x)], some 0, K :: bF (b + 30) x o true :: mF (b + 58) x 0 (c + 1) o bg :: F, some true⟩) rfl rfl rfl rfl
      exact (((((a.trans d).trans f).trans g).trans ((i.trans i2).trans (i3.trans i4))).trans (z (by lia))).le (by lia)
  | succ m ih =>
    intro x h F c bg hm hs hx hc hb hF hw
    by_cases hxe : x = e
    · obtain ⟨L, F', h', r1, r2, r3⟩ := ih x h F c bg (by lia) hs hx hc hb hF (by lia)
      exact ⟨L, F', h', r1, by lia, r3.le (by lia)⟩
    have hxlt : x < e := by have := hs.le; lia
    have hel : e ≤ lim := by rcases hE with ⟨h1, h2⟩ | ⟨_, h2⟩ <;> lia
    have a := loop3_in (l := l) (lim := lim) (h := h) (o := o) (F := F) H hc (fun e => Nat.lt_irrefl _ (hb _ e)) (by lia)
    have hr := H.sub 44 13 (nleq rfl)
    cases hs with
    | stop => exact absurd rfl hxe
    | hit _ => exact absurd rfl hxe
    | bs h92 _ hs =>
      have hle := hs.le
      have d := go_lit (code := code) (text := l.toArray) (lim := lim) (g := ⟨b + 25, x, x, o, #[lpA (b + 19) (c + 1) (some x)], some 0, bF (b + 24) x o true :: mF (b + 58) x 0 (c + 1) o bg :: F, none⟩) (c := 92) rfl (H.lt 25) (H.at 25) (H.at 26) (show x < lim by lia) (at_is h92)
      have f := go_any (code := code) (text := l.toArray) (lim := lim) (g := ⟨b + 27, x + 1, x, o, #[lpA (b + 19) (c + 1) (some x)], some 0, bF (b + 24) x o true :: mF (b + 58) x 0 (c + 1) o bg :: F, none⟩) rfl (H.lt 27) (H.at 27) (show x + 1 < lim by lia)
      have g := go_jump (code := code) (text := l.toArray) (lim := lim) (g := ⟨b + 28, x + 1 + 1, x, o, #[lpA (b + 19) (c + 1) (some x)], some 0, bF (b + 24) x o true :: mF (b + 58) x 0 (c + 1) o bg :: F, none⟩) (w := 15) rfl (H.lt 28) (H.at 28) (H.at 29)
      obtain ⟨n, u, v, w⟩ := run3 (code := code) (l := l) (lim := lim) (q := q) (r := b + 44) (x := x + 2) (h := x) (o := o) (L := #[lpA (b + 19) (c + 1) (some x)]) (I := some 0) (F := bF (b + 24) x o true :: mF (b + 58) x 0 (c + 1) o bg :: F) hr hl hl' (by lia) hs hel (by show F.length + 1 + 1 + 1 ≤ _; lia)
      obtain ⟨L, F', h', r1, r2, r3⟩ := ih (x + 2 + n) (x + 2 + n) (gF (b + 44) n (x + 2 + n) o true :: bF (b + 24) x o true :: mF (b + 58) x 0 (c + 1) o bg :: F) (c + 1) (some x) (by lia) v w (by lia) (fun y e => by cases e; lia) (by simp only [List.all_cons, hF]; rfl) (by show F.length + 1 + 1 + 1 + 3 * m + 20 ≤ _; lia)
      refine ⟨L, F', h', r1, by simp only [List.length_cons] at r2; lia, ?_⟩
      exact ((((a.trans d).trans (f.trans g)).trans u).trans r3).le (by lia)
    | one hcx hc92 hh hs =>
      have hle := hs.le
      have hqx : l[x]? = some q := by
        rcases hx with hx | hx | hx
        · exact absurd hx hxe
        · exact hx
        · rw [hcx] at hx; cases hx; exact absurd rfl hc92
      have e0 := at_is hqx
      have d := loop3_alt2 (l := l) (lim := lim) (x := x) (h := x) (o := o) (L := #[lpA (b + 19) (c + 1) (some x)]) (I := some 0) (F := mF (b + 58) x 0 (c + 1) o bg :: F) H (by show F.length + 1 + 10 ≤ _; lia) (fun h => by rw [e0]; exact hq)
      have f := go_lit (code := code) (text := l.toArray) (lim := lim) (g := ⟨b + 31, x, x, o, #[lpA (b + 19) (c + 1) (some x)], some 0, bF (b + 30) x o true :: mF (b + 58) x 0 (c + 1) o bg :: F, none⟩) (c := q) rfl (H.lt 31) (H.at 31) (H.at 32) (show x < lim by lia) e0
      have g := go_not (code := code) (text := l.toArray) (lim := lim) (g := ⟨b + 33, x + 1, x, o, #[lpA (b + 19) (c + 1) (some x)], some 0, bF (b + 30) x o true :: mF (b + 58) x 0 (c + 1) o bg :: F, none⟩) (w := 0) rfl (H.lt 33) (H.at 33) (H.at 35) (by show F.length + 1 + 1 + 1 ≤ _; lia)
      let K : Sre.Frame := { wait := .lookNot, pc := b + 33, pos := x + 1, outermost := o, kept := { whole := true } }
      have look : ∃ pc pos h, Go code l.toArray lim 2 ⟨b + 36, x + 1, x + 1, false, #[lpA (b + 19) (c + 1) (some x)], some 0, K :: bF (b + 30) x o true :: mF (b + 58) x 0 (c + 1) o bg :: F, none⟩ ⟨pc, pos, h, false, #[lpA (b + 19) (c + 1) (some x)], some 0, K :: bF (b + 30) x o true :: mF (b + 58) x 0 (c + 1) o bg :: F, some false⟩ := by
        by_cases h1 : x + 1 < lim ∧ l[x + 1]? = some q
        · have i := go_lit (code := code) (text := l.toArray) (lim := lim) (g := ⟨b + 36, x + 1, x + 1, false, #[lpA (b + 19) (c + 1) (some x)], some 0, K :: bF (b + 30) x o true :: mF (b + 58) x 0 (c + 1) o bg :: F, none⟩) (c := q) rfl (H.lt 36) (H.at 36) (H.at 37) h1.1 (at_is h1.2)
          have i2 := go_litN (code := code) (text := l.toArray) (lim := lim) (g := ⟨b + 38, x + 1 + 1, x + 1, false, #[lpA (b + 19) (c + 1) (some x)], some 0, K :: bF (b + 30) x o true :: mF (b + 58) x 0 (c + 1) o bg :: F, none⟩) (c := q) rfl (H.lt 38) (H.at 38) (H.at 39) (fun hlt => at_ne (fun e => hh ⟨hqx, h1.2, e⟩) (by have : x + 1 + 1 < lim := hlt; lia))
          exact ⟨_, _, _, i.trans i2⟩
        · exact ⟨_, _, _, (go_litN (code := code) (text := l.toArray) (lim := lim) (g := ⟨b + 36, x + 1, x + 1, false, #[lpA (b + 19) (c + 1) (some x)], some 0, K :: bF (b + 30) x o true :: mF (b + 58) x 0 (c + 1) o bg :: F, none⟩) (c := q) rfl (H.lt 36) (H.at 36) (H.at 37) (fun hlt => at_ne (fun e => h1 ⟨hlt, e⟩) (by have : x + 1 < lim := hlt; lia))).le (by decide)⟩
      obtain ⟨pc, pos, hd, i⟩ := look
      have i4 := go_lookN (code := code) (text := l.toArray) (lim := lim) (g := ⟨pc, pos, hd, false, #[lpA (b + 19) (c + 1) (some x)], some 0, K :: bF (b + 30) x o true :: mF (b + 58) x 0 (c + 1) o bg :: F, some false⟩) (f := K) (w := 7) (b := true) rfl rfl rfl rfl (H.at 34)
      have g2 := go_jump (code := code) (text := l.toArray) (lim := lim) (g := ⟨b + 41, x + 1, hd, o, #[lpA (b + 19) (c + 1) (some x)], some 0, bF (b + 30) x o true :: mF (b + 58) x 0 (c + 1) o bg :: F, none⟩) (w := 2) rfl (H.lt 41) (H.at 41) (H.at 42)
      obtain ⟨n, u, v, w⟩ := run3 (code := code) (l := l) (lim := lim) (q := q) (r := b + 44) (x := x + 1) (h := hd) (o := o) (L := #[lpA (b + 19) (c + 1) (some x)]) (I := some 0) (F := bF (b + 30) x o true :: mF (b + 58) x 0 (c + 1) o bg :: F) hr hl hl' (by lia) hs hel (by show F.length + 1 + 1 + 1 ≤ _; lia)
      obtain ⟨L, F', h', r1, r2, r3⟩ := ih (x + 1 + n) (x + 1 + n) (gF (b + 44) n (x + 1 + n) o true :: bF (b + 30) x o true :: mF (b + 58) x 0 (c + 1) o bg :: F) (c + 1) (some x) (by lia) v w (by lia) (fun y e => by cases e; lia) (by simp only [List.all_cons, hF]; rfl) (by show F.length + 1 + 1 + 1 + 3 * m + 20 ≤ _; lia)
      refine ⟨L, F', h', r1, by simp only [List.length_cons] at r2; lia, ?_⟩
      exact ((((a.trans d).trans (f.trans g)).trans ((i.trans i4).trans g2)).trans (u.trans r3)).le (by lia)
end
section
variable {code : Array Nat} {l : List Nat} {lim b q j W : Nat}
theorem Scan1.at_q {x e : Nat} (h : Scan1 l q x e) (hq : q ≠ 92) (hx : l[x]? = some q ∨ l[x]? = some 10) : x = e := by
  cases h with
  | stop => rfl
  | hit _ => rfl
  | nl _ => rfl
  | bs h1 _ _ =>
    rcases hx with hx | hx
    · rw [hx] at h1; exact absurd (Option.some.inj h1) hq
    · rw [hx] at h1; cases h1
  | one h1 _ h3 h4 _ =>
    rcases hx with hx | hx
    · rw [hx] at h1; exact absurd (Option.some.inj h1).symm h3
    · rw [hx] at h1; exact absurd (Option.some.inj h1).symm h4
theorem loop1_in (H : Has code b (t1 q W j)) {x h : Nat} {o : Bool} {c : Int} {bg : Option Nat} {F : List Sre.Frame} (hc : -1 ≤ c) (hb : bg ≠ some x) (hF : F.length + 10 ≤ 16777216) :
    Go code l.toArray lim 1 ⟨b + 45, x, h, o, #[lpA (b + 20) c bg], some 0, F, none⟩ ⟨b + 24, x, x, o, #[lpA (b + 20) (c + 1) (some x)], some 0, mF (b + 46) x 0 (c + 1) o bg :: F, none⟩ :=
  go_more (code := code) (text := l.toArray) (lim := lim) (g := ⟨b + 45, x, h, o, #[lpA (b + 20) c bg], some 0, F, none⟩) (i := 0) (most := 4294967295) (l := lpA (b + 20) c bg) (L' := #[lpA (b + 20) (c + 1) (some x)]) rfl (H.lt 45) (H.at 45) rfl rfl (H.at 22) (H.at 23) hc (.inr rfl) hb rfl (by show F.length + 1 ≤ _; lia)
theorem loop1 (H : Has code b (t1 q W j)) (hq : q = 34 ∧ W = 4 ∨ q = 39 ∧ W = 128) (hl : lim ≤ l.length) (hl' : lim ≤ 100000) {e : Nat} (hE : e ≤ lim) (hE' : e < lim → l[e]? ≠ some 92) {o : Bool} : ∀ (m x h : Nat) (F : List Sre.Frame) (c : Int) (bg : Option Nat), e - x ≤ m → Scan1 l q x e → (x = e ∨ l[x]? = some 92) → -1 ≤ c → (∀ y, bg = some y → y < x) → F.all good = true → F.length + 3 * m + 20 ≤ 16777216 →
    ∃ L F' h', F'.all good = true ∧ F'.length ≤ F.length + 3 * m + 1 ∧ Go code l.toArray lim (10 * m + 10) ⟨b + 45, x, h, o, #[lpA (b + 20) c bg], some 0, F, none⟩ ⟨b + 46, e, h', o, #[L], none, F', none⟩ := by
  intro m
  induction m with
  | zero =>
    intro x h F c bg hm hs hx hc hb hF hw
    have hxe : x = e := by have := hs.le; lia
    subst hxe
    have a := loop1_in (l := l) (lim := lim) (h := h) (o := o) (F := F) H hc (fun e => Nat.lt_irrefl _ (hb _ e)) (by lia)
    refine ⟨lpA (b + 20) (c + 1 - 1) bg, tF (b + 46) x 0 (c + 1) o :: F, x, ?_, ?_, ?_⟩
    · rw [List.all_cons, hF]; rfl
    · show F.length + 1 ≤ _; lia
    have d := go_litN (code := code) (text := l.toArray) (lim := lim) (g := ⟨b + 24, x, x, o, #[lpA (b + 20) (c + 1) (some x)], some 0, mF (b + 46) x 0 (c + 1) o bg :: F, none⟩) (c := 92) rfl (H.lt 24) (H.at 24) (H.at 25) (fun hlt => at_ne (hE' hlt) (by have : x < lim := hlt; lia))
    have f := go_mmore (code := code) (text := l.toArray) (lim := lim) (g := ⟨b + 24, x, x, o, #[lpA (b + 20) (c + 1) (some x)], some 0, mF (b + 46) x 0 (c + 1) o bg :: F, some false⟩) (f := mF (b + 46) x 0 (c + 1) o bg) (rest := F) (o := none) (L' := #[lpA (b + 20) (c + 1 - 1) bg]) rfl rfl rfl rfl rfl rfl (by lia)
    exact ((a.trans d).trans f).le (by lia)
  | succ m ih =>
    intro x h F c bg hm hs hx hc hb hF hw
    by_cases hxe : x = e
    · obtain ⟨L, F', h', r1, r2, r3⟩ := ih x h F c bg (by lia) hs (.inl hxe) hc hb hF (by lia)
      exact ⟨L, F', h', r1, by lia, r3.le (by lia)⟩
    have hxlt : x < e := by have := hs.le; lia
    have h92 : l[x]? = some 92 := hx.resolve_left hxe
    have a := loop1_in (l := l) (lim := lim) (h := h) (o := o) (F := F) H hc (fun e => Nat.lt_irrefl _ (hb _ e)) (by lia)
    have hr := H.sub 27 18 (nleq rfl)
    have hs' : Scan1 l q (x + 2) e := by
      cases hs with
      | stop => exact absurd rfl hxe
      | hit _ => exact absurd rfl hxe
      | nl _ => exact absurd rfl hxe
      | bs _ _ hs => exact hs
      | one h1 h2 _ _ _ => rw [h92] at h1; cases h1; exact absurd rfl h2
    have hle := hs'.le
    have d := go_lit (code := code) (text := l.toArray) (lim := lim) (g := ⟨b + 24, x, x, o, #[lpA (b + 20) (c + 1) (some x)], some 0, mF (b + 46) x 0 (c + 1) o bg :: F, none⟩) (c := 92) rfl (H.lt 24) (H.at 24) (H.at 25) (show x < lim by lia) (at_is h92)
    have f := go_any (code := code) (text := l.toArray) (lim := lim) (g := ⟨b + 26, x + 1, x, o, #[lpA (b + 20) (c + 1) (some x)], some 0, mF (b + 46) x 0 (c + 1) o bg :: F, none⟩) rfl (H.lt 26) (H.at 26) (show x + 1 < lim by lia)
    obtain ⟨n, u, v, w⟩ := run1 (code := code) (l := l) (lim := lim) (q := q) (W := W) (r := b + 27) (x := x + 2) (h := x) (o := o) (L := #[lpA (b + 20) (c + 1) (some x)]) (I := some 0) (F := mF (b + 46) x 0 (c + 1) o bg :: F) hr hq hl hl' (by lia) hs' (by lia) (by show F.length + 1 + 1 ≤ _; lia)
    have hq92 : q ≠ 92 := by lia
    have hxn : x + 2 + n = e ∨ l[x + 2 + n]? = some 92 := by
      rcases w with w | w | w | w
      · exact .inl w
      · exact .inl (v.at_q hq92 (.inl w))
      · exact .inr w
      · exact .inl (v.at_q hq92 (.inr w))
    obtain ⟨L, F', h', r1, r2, r3⟩ := ih (x + 2 + n) (x + 2 + n) (gF (b + 27) n (x + 2 + n) o true :: mF (b + 46) x 0 (c + 1) o bg :: F) (c + 1) (some x) (by lia) v hxn (by lia) (fun y e => by cases e; lia) (by simp only [List.all_cons, hF]; rfl) (by show F.length + 1 + 1 + 3 * m + 20 ≤ _; lia)
    refine ⟨L, F', h', r1, by simp only [List.length_cons] at r2; lia, ?_⟩
    exact ((a.trans d).trans ((f.trans u).trans r3)).le (by lia)
end
section
variable {code : Array Nat} {l : List Nat} {lim b q j W : Nat}
theorem lit3_yes (H : Has code b [16, q, 16, q, 16, q]) {k h : Nat} {o : Bool} {L : Array Loop} {I : Option Nat} {F : List Sre.Frame} (hh : Hit3 l q k) (hk : k + 3 ≤ lim) :
    Go code l.toArray lim 3 ⟨b, k, h, o, L, I, F, none⟩ ⟨b + 6, k + 3, h, o, L, I, F, none⟩ := by
  have a := go_lit (code := code) (text := l.toArray) (lim := lim) (g := ⟨b, k, h, o, L, I, F, none⟩) (c := q) rfl (H.lt 0) (H.at 0) (H.at 1) (show k < lim by lia) (at_is hh.1)
  have d := go_lit (code := code) (text := l.toArray) (lim := lim) (g := ⟨b + 2, k + 1, h, o, L, I, F, none⟩) (c := q) rfl (H.lt 2) (H.at 2) (H.at 3) (show k + 1 < lim by lia) (at_is hh.2.1)
  have f := go_lit (code := code) (text := l.toArray) (lim := lim) (g := ⟨b + 4, k + 2, h, o, L, I, F, none⟩) (c := q) rfl (H.lt 4) (H.at 4) (H.at 5) (show k + 2 < lim by lia) (at_is hh.2.2)
  exact (a.trans d).trans f
theorem lit3_no (H : Has code b [16, q, 16, q, 16, q]) {k h : Nat} {o : Bool} {L : Array Loop} {I : Option Nat} {F : List Sre.Frame} (hl : lim ≤ l.length) (hh : ¬ (Hit3 l q k ∧ k + 3 ≤ lim)) :
    ∃ pc pos, Go code l.toArray lim 3 ⟨b, k, h, o, L, I, F, none⟩ ⟨pc, pos, h, o, L, I, F, some false⟩ := by
  by_cases h0 : k < lim ∧ l[k]? = some q
  · have a := go_lit (code := code) (text := l.toArray) (lim := lim) (g := ⟨b, k, h, o, L, I, F, none⟩) (c := q) rfl (H.lt 0) (H.at 0) (H.at 1) h0.1 (at_is h0.2)
    by_cases h1 : k + 1 < lim ∧ l[k + 1]? = some q
    · have d := go_lit (code := code) (text := l.toArray) (lim := lim) (g := ⟨b + 2, k + 1, h, o, L, I, F, none⟩) (c := q) rfl (H.lt 2) (H.at 2) (H.at 3) h1.1 (at_is h1.2)
      have f := go_litN (code := code) (text := l.toArray) (lim := lim) (g := ⟨b + 4, k + 2, h, o, L, I, F, none⟩) (c := q) rfl (H.lt 4) (H.at 4) (H.at 5) (fun hlt => at_ne (fun e => hh ⟨⟨h0.2, h1.2, e⟩, hlt⟩) (by have : k + 2 < lim := hlt; lia))
      exact ⟨_, _, (a.trans d).trans f⟩
    · have d := go_litN (code := code) (text := l.toArray) (lim := lim) (g := ⟨b + 2, k + 1, h, o, L, I, F, none⟩) (c := q) rfl (H.lt 2) (H.at 2) (H.at 3) (fun hlt => at_ne (fun e => h1 ⟨hlt, e⟩) (by have : k + 1 < lim := hlt; lia))
      exact ⟨_, _, (a.trans d).le (by lia)⟩
  · exact ⟨_, _, (go_litN (code := code) (text := l.toArray) (lim := lim) (g := ⟨b, k, h, o, L, I, F, none⟩) (c := q) rfl (H.lt 0) (H.at 0) (H.at 1) (fun hlt => at_ne (fun e => h0 ⟨hlt, e⟩) (by have : k < lim := hlt; lia))).le (by lia)⟩
theorem str3 (H : Has code b (t3 q j)) (hq : q ≠ 92) (hl : lim ≤ l.length) (hl' : lim ≤ 100000) {k e e' h : Nat} {o : Bool} {F : List Sre.Frame} (hh : Hit3 l q k) (hs : Scan3 l q (k + 3) e)
    (hE : (e = l.length ∧ lim = l.length ∧ e' = e) ∨ (Hit3 l q e ∧ e + 3 ≤ lim ∧ e' = e + 3)) (hF : F.all good = true) (hFl : F.length ≤ 10) :
    ∃ F' h' L, F'.all good = true ∧ F'.length ≤ 400000 ∧ Go code l.toArray lim 2000000 ⟨b, k, h, o, #[], none, F, none⟩ ⟨b + 69 + 1 + j, e', h', o, L, none, F', none⟩ := by
  have hle := hs.le
  have hel : e ≤ lim := by rcases hE with ⟨h1, h2, _⟩ | ⟨_, h2, _⟩ <;> lia
  have a := lit3_yes (code := code) (l := l) (lim := lim) (b := b) (q := q) (h := h) (o := o) (L := #[]) (I := none) (F := F) (H.sub 0 6 (nleq rfl)) hh (by lia)
  obtain ⟨n, u, v, w⟩ := run3 (code := code) (l := l) (lim := lim) (q := q) (r := b + 6) (x := k + 3) (h := h) (o := o) (L := #[]) (I := none) (F := F) (H.sub 6 13 (nleq rfl)) hl hl' (by lia) hs hel (by lia)
  let F1 : List Sre.Frame := gF (b + 6) n (k + 3 + n) o false :: F
  have r := go_rep (code := code) (text := l.toArray) (lim := lim) (g := ⟨b + 19, k + 3 + n, k + 3 + n, o, #[], none, F1, none⟩) (w := 37) rfl (H.lt 19) (H.at 19) (H.at 20) (by show F.length + 1 + 1 ≤ _; lia)
  let cl : Sre.Frame := { wait := .closeLoop, pc := b + 19, pos := k + 3 + n, outermost := o, loop := 0 }
  have hle' := v.le
  obtain ⟨L, F2, h2, g1, g2, g3⟩ := loop3 (code := code) (l := l) (lim := lim) (b := b) (q := q) (j := j) H hq hl hl' (e := e) (hE.imp (fun h => ⟨h.1, h.2.1⟩) (fun h => ⟨h.1, h.2.1⟩)) (o := o) lim (k + 3 + n) (k + 3 + n) (cl :: F1) (-1) none (by lia) v w (Int.le_refl _) (fun y e => by cases e) (by simp only [F1, List.all_cons, hF]; rfl) (by show F.length + 1 + 1 + 3 * lim + 20 ≤ _; lia)
  have g2' : F2.length ≤ F.length + 1 + 1 + 3 * lim + 1 := g2
  have r2 := go_rep (code := code) (text := l.toArray) (lim := lim) (g := ⟨b + 58, e, h2, o, #[L], none, F2, none⟩) (w := 9) rfl (H.lt 58) (H.at 58) (H.at 59) (by show F2.length + 1 ≤ _; lia)
  let cl2 : Sre.Frame := { wait := .closeLoop, pc := b + 58, pos := e, outermost := o, loop := 1 }
  have m := go_more (code := code) (text := l.toArray) (lim := lim) (g := ⟨b + 68, e, e, o, #[L, lpA (b + 58) (-1) none], some 1, cl2 :: F2, none⟩) (i := 1) (most := 1) (l := lpA (b + 58) (-1) none) (L' := #[L, lpA (b + 58) (-1 + 1) (some e)]) rfl (H.lt 68) (H.at 68) rfl rfl (H.at 60) (H.at 61) (Int.le_refl _) (.inl (show (-1 : Int) + 1 < ((1 : Nat) : Int) by decide)) (by simp) rfl (by show F2.length + 1 + 1 ≤ _; lia)
  have pre := ((a.trans u).trans (r.trans g3)).trans (r2.trans m)
  let M1 : Sre.Frame := mF (b + 69) e 1 (-1 + 1) o none
  rcases hE with ⟨h1, h2', he⟩ | ⟨hh', h2', he⟩ <;> rw [he]
  · obtain ⟨pc, pos, f⟩ := lit3_no (code := code) (l := l) (lim := lim) (b := b + 62) (q := q) (k := e) (h := e) (o := o) (L := #[L, lpA (b + 58) (-1 + 1) (some e)]) (I := some 1) (F := M1 :: cl2 :: F2) (H.sub 62 6 (nleq rfl)) hl (fun ⟨_, h⟩ => by lia)
    have g := go_mmore (code := code) (text := l.toArray) (lim := lim) (g := ⟨pc, pos, e, o, #[L, lpA (b + 58) (-1 + 1) (some e)], some 1, M1 :: cl2 :: F2, some false⟩) (f := M1) (rest := cl2 :: F2) (o := none) (L' := #[L, lpA (b + 58) (-1 + 1 - 1) none]) rfl rfl rfl rfl rfl rfl (by show F2.length + 1 + 1 ≤ _; lia)
    have z := go_jump (code := code) (text := l.toArray) (lim := lim) (g := ⟨b + 69, e, e, o, #[L, lpA (b + 58) (-1 + 1 - 1) none], none, tF (b + 69) e 1 (-1 + 1) o :: cl2 :: F2, none⟩) (w := j) rfl (H.lt 69) (H.at 69) (H.at 70)
    refine ⟨_, _, _, ?_, ?_, (pre.trans ((f.trans g).trans z)).le (by lia)⟩
    · simp only [List.all_cons, g1]; rfl
    · show F2.length + 1 + 1 ≤ _; lia
  · have f := lit3_yes (code := code) (l := l) (lim := lim) (b := b + 62) (q := q) (k := e) (h := e) (o := o) (L := #[L, lpA (b + 58) (-1 + 1) (some e)]) (I := some 1) (F := M1 :: cl2 :: F2) (H.sub 62 6 (nleq rfl)) hh' h2'
    have g := go_tail (code := code) (text := l.toArray) (lim := lim) (g := ⟨b + 68, e + 3, e, o, #[L, lpA (b + 58) (-1 + 1) (some e)], some 1, M1 :: cl2 :: F2, none⟩) (i := 1) (most := 1) (l := lpA (b + 58) (-1 + 1) (some e)) rfl (H.lt 68) (H.at 68) rfl rfl (H.at 60) (H.at 61) (show (-1 : Int) ≤ -1 + 1 by decide) ⟨(show ¬ ((-1 : Int) + 1 + 1 < ((1 : Nat) : Int)) by decide), by decide⟩ (by show F2.length + 1 + 1 + 1 ≤ _; lia)
    have z := go_jump (code := code) (text := l.toArray) (lim := lim) (g := ⟨b + 69, e + 3, e + 3, o, #[L, lpA (b + 58) (-1 + 1) (some e)], none, tF (b + 69) (e + 3) 1 (-1 + 1 + 1) o :: M1 :: cl2 :: F2, none⟩) (w := j) rfl (H.lt 69) (H.at 69) (H.at 70)
    refine ⟨_, _, _, ?_, ?_, (pre.trans ((f.trans g).trans z)).le (by lia)⟩
    · simp only [List.all_cons, g1]; rfl
    · show F2.length + 1 + 1 + 1 ≤ _; lia
theorem str1 (H : Has code b (t1 q W j)) (hq : q = 34 ∧ W = 4 ∨ q = 39 ∧ W = 128) (hl : lim ≤ l.length) (hl' : lim ≤ 100000) {k e e' h : Nat} {o : Bool} {F : List Sre.Frame} (hh : l[k]? = some q) (hs : Scan1 l q (k + 1) e)
    (hE : (e ≤ lim ∧ (e < lim → l[e]? = some 10) ∧ e' = e) ∨ (l[e]? = some q ∧ e + 1 ≤ lim ∧ e' = e + 1)) (hF : F.all good = true) (hFl : F.length ≤ 10) :
    ∃ F' h' L, F'.all good = true ∧ F'.length ≤ 400000 ∧ Go code l.toArray lim 2000000 ⟨b, k, h, o, #[], none, F, none⟩ ⟨b + 53 + 1 + j, e', h', o, L, none, F', none⟩ := by
  have hle := hs.le
  have hel : e ≤ lim := by rcases hE with ⟨h1, h2, _⟩ | ⟨_, h2, _⟩ <;> lia
  have hq92 : q ≠ 92 := by lia
  have hq10 : q ≠ 10 := by lia
  have a := go_lit (code := code) (text := l.toArray) (lim := lim) (g := ⟨b, k, h, o, #[], none, F, none⟩) (c := q) rfl (H.lt 0) (H.at 0) (H.at 1) (show k < lim by lia) (at_is hh)
  obtain ⟨n, u, v, w⟩ := run1 (code := code) (l := l) (lim := lim) (q := q) (W := W) (r := b + 2) (x := k + 1) (h := h) (o := o) (L := #[]) (I := none) (F := F) (H.sub 2 18 (nleq rfl)) hq hl hl' (by lia) hs hel (by lia)
  let F1 : List Sre.Frame := gF (b + 2) n (k + 1 + n) o false :: F
  have r := go_rep (code := code) (text := l.toArray) (lim := lim) (g := ⟨b + 20, k + 1 + n, k + 1 + n, o, #[], none, F1, none⟩) (w := 24) rfl (H.lt 20) (H.at 20) (H.at 21) (by show F.length + 1 + 1 ≤ _; lia)
  let cl : Sre.Frame := { wait := .closeLoop, pc := b + 20, pos := k + 1 + n, outermost := o, loop := 0 }
  have hle' := v.le
  have hxn : k + 1 + n = e ∨ l[k + 1 + n]? = some 92 := by
    rcases w with w | w | w | w
    · exact .inl w
    · exact .inl (v.at_q hq92 (.inl w))
    · exact .inr w
    · exact .inl (v.at_q hq92 (.inr w))
  obtain ⟨L, F2, h2, g1, g2, g3⟩ := loop1 (code := code) (l := l) (lim := lim) (b := b) (q := q) (W := W) (j := j) H hq hl hl' (e := e) hel (fun hlt e92 => by
    rcases hE with ⟨_, h2, _⟩ | ⟨h2, _, _⟩
    · rw [h2 hlt] at e92; cases e92
    · rw [h2] at e92; exact hq92 (Option.some.inj e92)) (o := o) lim (k + 1 + n) (k + 1 + n) (cl :: F1) (-1) none (by lia) v hxn (Int.le_refl _) (fun y e => by cases e) (by simp only [F1, List.all_cons, hF]; rfl) (by show F.length + 1 + 1 + 3 * lim + 20 ≤ _; lia)
  have g2' : F2.length ≤ F.length + 1 + 1 + 3 * lim + 1 := g2
  have pre := (a.trans u).trans (r.trans g3)
  have hacc : ∀ c sn, ∃ sn', accepts code (b + 46 + 4) c sn = .ok ((fun c => c == q) c, sn') := fun c sn => ⟨sn, acc_lit (H.at 50) (H.at 51)⟩
  rcases hE with ⟨h1, h2', he⟩ | ⟨hh', h2', he⟩ <;> rw [he]
  · have hn : cnt1 (fun c => c == q) l.toArray (min 1 (lim - e)) e = 0 := by
      by_cases hlt : e < lim
      · rw [Nat.min_eq_left (by lia)]
        unfold cnt1
        rw [at_is (h2' hlt), if_neg]
        simpa using fun h => hq10 h.symm
      · rw [show lim - e = 0 by lia]; rfl
    have f := go_run (code := code) (text := l.toArray) (lim := lim) (g := ⟨b + 46, e, h2, o, #[L], none, F2, none⟩) (P := fun c => c == q) (skip := 6) (least := 0) (most := 1) (n := 0) rfl (H.lt 46) (H.at 46) (H.at 47) (H.at 48) (H.at 49) hel hacc hn (Nat.zero_le _) (Nat.zero_le _) (by show F2.length + 1 ≤ _; lia)
    have z := go_jump (code := code) (text := l.toArray) (lim := lim) (g := ⟨b + 53, e, e, o, #[L], none, gF (b + 46) 0 e o false :: F2, none⟩) (w := j) rfl (H.lt 53) (H.at 53) (H.at 54)
    refine ⟨_, _, _, ?_, ?_, (pre.trans (f.trans z)).le (by lia)⟩
    · simp only [List.all_cons, g1]; rfl
    · show F2.length + 1 ≤ _; lia
  · have hn : cnt1 (fun c => c == q) l.toArray (min 1 (lim - e)) e = 1 := by
      rw [Nat.min_eq_left (by lia)]
      unfold cnt1
      rw [at_is hh', if_pos (by simp)]
      rfl
    have f := go_run (code := code) (text := l.toArray) (lim := lim) (g := ⟨b + 46, e, h2, o, #[L], none, F2, none⟩) (P := fun c => c == q) (skip := 6) (least := 0) (most := 1) (n := 1) rfl (H.lt 46) (H.at 46) (H.at 47) (H.at 48) (H.at 49) hel hacc hn (Nat.zero_le _) (Nat.zero_le _) (by show F2.length + 1 ≤ _; lia)
    have z := go_jump (code := code) (text := l.toArray) (lim := lim) (g := ⟨b + 53, e + 1, e + 1, o, #[L], none, gF (b + 46) 1 (e + 1) o false :: F2, none⟩) (w := j) rfl (H.lt 53) (H.at 53) (H.at 54)
    refine ⟨_, _, _, ?_, ?_, (pre.trans (f.trans z)).le (by lia)⟩
    · simp only [List.all_cons, g1]; rfl
    · show F2.length + 1 ≤ _; lia
end
theorem c3a : Has c3 12 (t3 34 186) := ⟨by decide +kernel, by decide +kernel⟩
theorem c3b : Has c3 84 (t1 34 4 130) := ⟨by decide +kernel, by decide +kernel⟩
theorem c3c : Has c3 140 (t3 39 58) := ⟨by decide +kernel, by decide +kernel⟩
theorem c3d : Has c3 212 (t1 39 128 2) := ⟨by decide +kernel, by decide +kernel⟩
theorem c3e : Has c3 268 [1] := ⟨by decide +kernel, by decide +kernel⟩
theorem c3z : Has c3 10 [7, 72] := ⟨by decide +kernel, by decide +kernel⟩
theorem c3y : Has c3 83 [56] ∧ Has c3 139 [72] ∧ Has c3 211 [56] := ⟨⟨by decide +kernel, by decide +kernel⟩, ⟨by decide +kernel, by decide +kernel⟩, ⟨by decide +kernel, by decide +kernel⟩⟩
section
variable {l : List Nat} {lim : Nat}
theorem str_fin {g : Cf} {e h k : Nat} {o : Bool} {L : Array Loop} {F' : List Sre.Frame} (go : Go c3 l.toArray lim k g ⟨268, e, h, o, L, none, F', none⟩) (hF : F'.all good = true) (hl : F'.length ≤ 400000) (hk : k ≤ 3000000) : Endd c3 l.toArray lim 4000000 g (some e) := by
  have b := go_succ (code := c3) (text := l.toArray) (lim := lim) (g := ⟨268, e, h, o, L, none, F', none⟩) rfl (c3e.lt 0) (c3e.at 0)
  exact ((go.trans b).endd (end_mk hF)).le (by show k + 1 + (F'.length + 1) ≤ 4000000; lia)
theorem str_end {k e h : Nat} {o : Bool} (hm : Mk l k e) (hq : l[k]? = some 34 ∨ l[k]? = some 39) (hl : lim ≤ l.length) (hl' : lim ≤ 100000) (he : e ≤ lim) :
    Endd c3 l.toArray lim 4000000 ⟨10, k, h, o, #[], none, [], none⟩ (some e) := by
  have b0 := go_branch (code := c3) (text := l.toArray) (lim := lim) (g := ⟨10, k, h, o, #[], none, [], none⟩) (w := 72) rfl (c3z.lt 0) (c3z.at 0) (c3z.at 1) (by decide) (nleq rfl)
  have n1 : ∀ {pc pos h' : Nat}, Go c3 l.toArray lim 1 ⟨pc, pos, h', o, #[], none, [bF 11 k o false], some false⟩ ⟨84, k, k, o, #[], none, [bF 83 k o false], none⟩ := fun {pc pos h'} =>
    go_nextB (code := c3) (text := l.toArray) (lim := lim) (g := ⟨pc, pos, h', o, #[], none, [bF 11 k o false], some false⟩) (f := bF 11 k o false) (w := 72) (b := false) rfl rfl rfl rfl (c3z.at 1) (by rw [show wd c3 (11 + 72) = 56 from c3y.1.at 0]; decide) (nleq rfl)
  have n2 : ∀ {pc pos h' : Nat}, Go c3 l.toArray lim 1 ⟨pc, pos, h', o, #[], none, [bF 83 k o false], some false⟩ ⟨140, k, k, o, #[], none, [bF 139 k o false], none⟩ := fun {pc pos h'} =>
    go_nextB (code := c3) (text := l.toArray) (lim := lim) (g := ⟨pc, pos, h', o, #[], none, [bF 83 k o false], some false⟩) (f := bF 83 k o false) (w := 56) (b := false) rfl rfl rfl rfl (c3y.1.at 0) (by rw [show wd c3 (83 + 56) = 72 from c3y.2.1.at 0]; decide) (nleq rfl)
  have n3 : ∀ {pc pos h' : Nat}, Go c3 l.toArray lim 1 ⟨pc, pos, h', o, #[], none, [bF 139 k o false], some false⟩ ⟨212, k, k, o, #[], none, [bF 211 k o false], none⟩ := fun {pc pos h'} =>
    go_nextB (code := c3) (text := l.toArray) (lim := lim) (g := ⟨pc, pos, h', o, #[], none, [bF 139 k o false], some false⟩) (f := bF 139 k o false) (w := 72) (b := false) rfl rfl rfl rfl (c3y.2.1.at 0) (by rw [show wd c3 (139 + 72) = 56 from c3y.2.2.at 0]; decide) (nleq rfl)
  /- to each kind of string -/
  have to2 : ¬ (Hit3 l 34 k ∧ k + 3 ≤ lim) → Go c3 l.toArray lim 10 ⟨10, k, h, o, #[], none, [], none⟩ ⟨84, k, k, o, #[], none, [bF 83 k o false], none⟩ := fun hn => by
    obtain ⟨pc, pos, f⟩ := lit3_no (code := c3) (l := l) (lim := lim) (b := 12) (q := 34) (k := k) (h := k) (o := o) (L := #[]) (I := none) (F := [bF 11 k o false]) (c3a.sub 0 6 (nleq rfl)) hl hn
    exact ((b0.trans f).trans n1).le (by lia)
  have to3 : l[k]? ≠ some 34 → k < lim → Go c3 l.toArray lim 20 ⟨10, k, h, o, #[], none, [], none⟩ ⟨140, k, k, o, #[], none, [bF 139 k o false], none⟩ := fun hn hk => by
    have f := go_litN (code := c3) (text := l.toArray) (lim := lim) (g := ⟨84, k, k, o, #[], none, [bF 83 k o false], none⟩) (c := 34) rfl (c3b.lt 0) (c3b.at 0) (c3b.at 1) (fun hlt => at_ne hn (by lia))
    exact (((to2 fun h => hn h.1.1).trans f).trans n2).le (by lia)
  have to4 : l[k]? ≠ some 34 → k < lim → ¬ (Hit3 l 39 k ∧ k + 3 ≤ lim) → Go c3 l.toArray lim 30 ⟨10, k, h, o, #[], none, [], none⟩ ⟨212, k, k, o, #[], none, [bF 211 k o false], none⟩ := fun hn hk hh => by
    obtain ⟨pc, pos, f⟩ := lit3_no (code := c3) (l := l) (lim := lim) (b := 140) (q := 39) (k := k) (h := k) (o := o) (L := #[]) (I := none) (F := [bF 139 k o false]) (c3c.sub 0 6 (nleq rfl)) hl hh
    exact (((to3 hn hk).trans f).trans n3).le (by lia)
  have three : ∀ {q x : Nat}, q = 34 ∨ q = 39 → Hit3 l q k → Scan3 l q (k + 3) x → (x = l.length ∧ lim = l.length ∧ e = x) ∨ (Hit3 l q x ∧ x + 3 ≤ lim ∧ e = x + 3) → Endd c3 l.toArray lim 4000000 ⟨10, k, h, o, #[], none, [], none⟩ (some e) := fun {q x} hq hh hs hE => by
    rcases hq with rfl | rfl
    · obtain ⟨F', h', L, r1, r2, r3⟩ := str3 (h := k) (o := o) (F := [bF 11 k o false]) c3a (by decide) hl hl' hh hs hE rfl (nleq rfl)
      exact str_fin (b0.trans r3) r1 r2 (by lia)
    · have hk : l[k]? ≠ some 34 := by rw [hh.1]; decide
      obtain ⟨F', h', L, r1, r2, r3⟩ := str3 (h := k) (o := o) (F := [bF 139 k o false]) c3c (by decide) hl hl' hh hs hE rfl (nleq rfl)
      have hle := hs.le
      exact str_fin ((to3 hk (by rcases hE with ⟨a, b, c⟩ | ⟨a, b, c⟩ <;> lia)).trans r3) r1 r2 (by lia)
  have once : ∀ {q x : Nat}, q = 34 ∨ q = 39 → l[k]? = some q → ¬ Hit3 l q k → Scan1 l q (k + 1) x → (x ≤ lim ∧ (x < lim → l[x]? = some 10) ∧ e = x) ∨ (l[x]? = some q ∧ x + 1 ≤ lim ∧ e = x + 1) → Endd c3 l.toArray lim 4000000 ⟨10, k, h, o, #[], none, [], none⟩ (some e) := fun {q x} hq hk hh hs hE => by
    have hle := hs.le
    rcases hq with rfl | rfl
    · obtain ⟨F', h', L, r1, r2, r3⟩ := str1 (h := k) (o := o) (F := [bF 83 k o false]) c3b (.inl ⟨rfl, rfl⟩) hl hl' hk hs hE rfl (nleq rfl)
      exact str_fin ((to2 fun h => hh h.1).trans r3) r1 r2 (by lia)
    · obtain ⟨F', h', L, r1, r2, r3⟩ := str1 (h := k) (o := o) (F := [bF 211 k o false]) c3d (.inr ⟨rfl, rfl⟩) hl hl' hk hs hE rfl (nleq rfl)
      exact str_fin ((to4 (by rw [hk]; decide) (by rcases hE with ⟨a, b, c⟩ | ⟨a, b, c⟩ <;> lia) fun h => hh h.1).trans r3) r1 r2 (by lia)
  cases hm with
  | one h1 _ _ h4 h5 => rcases hq with hq | hq <;> rw [hq] at h1 <;> cases h1 <;> contradiction
  | com h1 _ _ _ => rcases hq with hq | hq <;> rw [hq] at h1 <;> cases h1
  | bs h1 _ => rcases hq with hq | hq <;> rw [hq] at h1 <;> cases h1
  | s3h hq hh hs hx => exact three hq hh hs (.inr ⟨hx, he, rfl⟩)
  | s3e hq hh hs => exact three hq hh hs (.inl ⟨rfl, Nat.le_antisymm hl he, rfl⟩)
  | s1h hq hk hh hs hx => exact once hq hk hh hs (.inr ⟨hx, he, rfl⟩)
  | s1e hq hk hh hs hx => exact once hq hk hh hs (.inl ⟨he, fun h => hx.resolve_left (by lia), rfl⟩)
end
end Mine
end
section
open PySem PySem.W PyProof.Rows PySem.Calls
set_option Elab.async false
set_option linter.unusedVariables false
namespace Mine
inductive V where
  | any
  | none
  | bool (b : Bool)
  | int (i : Int)
  | str (x : Str)
  | tup (vs : List V)
  | lst (vs : List V)
  | ref (a : Addr)
  | bi (id : String)
  | ty (n : String)
  | dct (ks : List Int) (vs : List V)
noncomputable abbrev Fz := Addr → Option Obj
noncomputable def Ext (z z' : Fz) : Prop := ∀ a o, z a = some o → z' a = some o
theorem Ext.refl (z : Fz) : Ext z z := fun _ _ h => h
theorem Ext.trans {z₁ z₂ z₃ : Fz} (h : Ext z₁ z₂) (k : Ext z₂ z₃) : Ext z₁ z₃ := fun a o e => k a o (h a o e)
mutual
inductive Den (z : Fz) : Value → V → Prop where
  | none : Den z .none .none
  | bool (b : Bool) : Den z (.bool b) (.bool b)
  | int (i : Int) (t : Tok) : Den z (.int i t) (.int i)
  | str (x : Str) (t : Tok) : Den z (.str x t) (.str x)
  | ref (a : Addr) : Den z (.ref a) (.ref a)
  | bi (id : String) : Den z (.builtin id) (.bi id)
  | ty (n : String) : Den z (.type n) (.ty n)
  | tup {a : Addr} {o : Obj} {items : Array Value} {n : Nat} {vs : List V} : z a = some o → o.cls = .type "tuple" → o.data = .seq items n → DenL z items.toList vs → Den z (.ref a) (.tup vs)
  | lst {a : Addr} {o : Obj} {items : Array Value} {n : Nat} {vs : List V} : z a = some o → o.cls = .type "list" → o.data = .seq items n → DenL z items.toList vs → Den z (.ref a) (.lst vs)
  | dct {a : Addr} {o : Obj} {f : Int → Option Value} {ks : List Int} {us : List Value} {vs : List V} : z a = some o → (∀ h : Heap, h.get? a = some o → h.IntMap a f) → ks.map f = us.map some → DenL z us vs → Den z (.ref a) (.dct ks vs)
inductive DenL (z : Fz) : List Value → List V → Prop where
  | nil : DenL z [] []
  | cons {v : Value} {x : V} {vs : List Value} {xs : List V} : Den z v x → DenL z vs xs → DenL z (v :: vs) (x :: xs)
end
theorem Den.mono {z z' : Fz} (hz : Ext z z') {v : Value} {x : V} (h : Den z v x) : Den z' v x :=
  Den.rec (motive_1 := fun v x _ => Den z' v x) (motive_2 := fun v x _ => DenL z' v x) .none .bool .int .str .ref .bi .ty (fun h1 h2 h3 _ d => .tup (hz _ _ h1) h2 h3 d) (fun h1 h2 h3 _ d => .lst (hz _ _ h1) h2 h3 d) (fun h1 h2 h3 _ d => .dct (hz _ _ h1) h2 h3 d) .nil (fun _ _ d r => .cons d r) h
theorem DenL.mono {z z' : Fz} (hz : Ext z z') {v : List Value} {x : List V} (h : DenL z v x) : DenL z' v x :=
  DenL.rec (motive_1 := fun v x _ => Den z' v x) (motive_2 := fun v x _ => DenL z' v x) .none .bool .int .str .ref .bi .ty (fun h1 h2 h3 _ d => .tup (hz _ _ h1) h2 h3 d) (fun h1 h2 h3 _ d => .lst (hz _ _ h1) h2 h3 d) (fun h1 h2 h3 _ d => .dct (hz _ _ h1) h2 h3 d) .nil (fun _ _ d r => .cons d r) h
theorem Den.strI {z : Fz} {u : Value} {x : Str} (h : Den z u (.str x)) : ∃ t, u = .str x t := by cases h; exact ⟨_, rfl⟩
theorem Den.intI {z : Fz} {u : Value} {i : Int} (h : Den z u (.int i)) : ∃ t, u = .int i t := by cases h; exact ⟨_, rfl⟩
theorem Den.biI {z : Fz} {u : Value} {i : String} (h : Den z u (.bi i)) : u = .builtin i := by cases h; rfl
theorem Den.refI {z : Fz} {u : Value} {i : Addr} (h : Den z u (.ref i)) : u = .ref i := by cases h; rfl
theorem Den.noneI {z : Fz} {u : Value} (h : Den z u .none) : u = .none := by cases h; rfl
theorem Den.boolI {z : Fz} {u : Value} {b : Bool} (h : Den z u (.bool b)) : u = .bool b := by cases h; rfl
theorem Den.tyI {z : Fz} {u : Value} {i : String} (h : Den z u (.ty i)) : u = .type i := by cases h; rfl
theorem DenL.nilI {z : Fz} {u : List Value} (h : DenL z u []) : u = [] := by cases h; rfl
theorem DenL.consI {z : Fz} {u : List Value} {x : V} {xs : List V} (h : DenL z u (x :: xs)) : ∃ v vs, u = v :: vs ∧ Den z v x ∧ DenL z vs xs := by cases h with | cons d r => exact ⟨_, _, rfl, d, r⟩
theorem DenL.length {z : Fz} : ∀ {v : List Value} {x : List V}, DenL z v x → v.length = x.length
  | _, _, .nil => rfl
  | _, _, .cons _ r => by simp [DenL.length r]
theorem DenL.append {z : Fz} : ∀ {v v' : List Value} {x x' : List V}, DenL z v x → DenL z v' x' → DenL z (v ++ v') (x ++ x')
  | _, _, _, _, .nil, h => h
  | _, _, _, _, .cons d r, h => .cons d (DenL.append r h)
theorem DenL.get {z : Fz} : ∀ {v : List Value} {x : List V} {i : Nat} {y : V}, DenL z v x → x[i]? = some y → ∃ u, v[i]? = some u ∧ Den z u y
  | _, _, 0, _, .cons d _, h => by cases h; exact ⟨_, rfl, d⟩
  | _, _, i + 1, _, .cons _ r, h => by simpa using DenL.get r (i := i) (by simpa using h)
theorem DenL.take {z : Fz} : ∀ {v : List Value} {x : List V} (n : Nat), DenL z v x → DenL z (v.take n) (x.take n)
  | _, _, 0, _ => by simpa using .nil
  | _, _, _ + 1, .nil => by simpa using .nil
  | _, _, n + 1, .cons d r => .cons d (DenL.take n r)
inductive DenE (z : Fz) : List DictEntry → List (Str × V) → Prop where
  | nil : DenE z [] []
  | cons {hs : Int} {x : Str} {t : Tok} {u : Value} {v : V} {es : List DictEntry} {m : List (Str × V)} : Den z u v → DenE z es m → DenE z (⟨hs, .str x t, u⟩ :: es) ((x, v) :: m)
theorem DenE.mono {z z' : Fz} (hz : Ext z z') : ∀ {es : List DictEntry} {m : List (Str × V)}, DenE z es m → DenE z' es m
  | _, _, .nil => .nil
  | _, _, .cons d r => .cons (d.mono hz) (r.mono hz)
theorem DenE.length {z : Fz} : ∀ {es : List DictEntry} {m : List (Str × V)}, DenE z es m → es.length = m.length
  | _, _, .nil => rfl
  | _, _, .cons _ r => by simp [r.length]
theorem DenE.find {z : Fz} {x : Str} {v : V} : ∀ {es : List DictEntry} {m : List (Str × V)}, DenE z es m → (m.map (·.1)).Nodup → (x, v) ∈ m → ∃ e u, es.find? (·.key.isStr x) = some e ∧ e.val = u ∧ Den z u v
  | _, _, .cons (x := y) (t := t) (u := u) d r, hn, h => by
    rcases List.mem_cons.mp h with e | h
    · cases e; exact ⟨_, u, List.find?_cons_of_pos (by simp [Value.isStr]), rfl, d⟩
    · obtain ⟨e, u, a, b, c⟩ := r.find (List.nodup_cons.mp hn).2 h
      refine ⟨e, u, ?_, b, c⟩
      rw [List.find?_cons_of_neg _, a]
      have : y ≠ x := fun e => (List.nodup_cons.mp hn).1 (by dsimp only; rw [e]; exact List.mem_map_of_mem (f := (·.1)) h)
      simp [Value.isStr, this]
theorem DenE.miss {z : Fz} {x : Str} : ∀ {es : List DictEntry} {m : List (Str × V)}, DenE z es m → x ∉ m.map (·.1) → es.find? (·.key.isStr x) = none
  | _, _, .nil, _ => rfl
  | _, _, .cons (x := y) d r, h => by
    have h1 : y ≠ x := fun e => h (by simp [e])
    rw [List.find?_cons_of_neg (by simp [Value.isStr, h1])]
    exact r.miss fun e => h (by simp only [List.map_cons, List.mem_cons]; exact .inr e)
theorem DenE.noRef {z : Fz} : ∀ {es : List DictEntry} {m : List (Str × V)}, DenE z es m → es.any (·.refKey) = false
  | _, _, .nil => rfl
  | _, _, .cons d r => by rw [List.any_cons, r.noRef]; rfl
inductive Res where
  | ns (m : List (Str × V))
  | att (m : List (Str × V))
  | list (vs : List V)
  | cell (v : V)
  | obj (o : Obj)
noncomputable abbrev Led := List (Addr × Res)
noncomputable def ResAt (z : Fz) (h : Heap) (a : Addr) : Res → Prop
  | .ns m => (m.map (·.1)).Nodup ∧ ∃ f, h.Ns a f ∧ ∀ p ∈ m, p.2 = .any ∨ ∃ v, f p.1 = some v ∧ Den z v p.2
  | .att m => (m.map (·.1)).Nodup ∧ ∃ es n, h.get? a = some (dictOf es n) ∧ DenE z es m
  | .list vs => ∃ items n, h.get? a = some { cls := .type "list", data := .seq items n } ∧ DenL z items.toList vs
  | .cell v => ∃ u, h.IsCell a u ∧ (v = .any ∨ ∃ w, u = some w ∧ Den z w v)
  | .obj o => h.get? a = some o
theorem ResAt.there {z : Fz} {h : Heap} {a : Addr} {r : Res} (x : ResAt z h a r) : ∃ o, h.get? a = some o := by
  cases r with
  | ns m => obtain ⟨_, f, ⟨o, _, _, ho, _⟩, _⟩ := x; exact ⟨o, ho⟩
  | att m => obtain ⟨_, es, n, ho, _⟩ := x; exact ⟨_, ho⟩
  | list vs => obtain ⟨_, _, ho, _⟩ := x; exact ⟨_, ho⟩
  | cell v => obtain ⟨_, ⟨o, ho, _⟩, _⟩ := x; exact ⟨o, ho⟩
  | obj o => exact ⟨o, x⟩
theorem ResAt.keeps {z z' : Fz} {h h' : Heap} {a : Addr} {r : Res} (hz : Ext z z') (hk : ∀ o, h.get? a = some o → h'.get? a = some o) (x : ResAt z h a r) : ResAt z' h' a r := by
  cases r with
  | ns m =>
    obtain ⟨hn, f, ⟨o, es, ep, ho, r⟩, hp⟩ := x
    exact ⟨hn, f, ⟨o, es, ep, hk _ ho, r⟩, fun p h => (hp p h).imp id fun ⟨v, a, b⟩ => ⟨v, a, b.mono hz⟩⟩
  | att m =>
    obtain ⟨hn, es, n, ho, d⟩ := x
    exact ⟨hn, es, n, hk _ ho, d.mono hz⟩
  | list vs => obtain ⟨it, n, ho, d⟩ := x; exact ⟨it, n, hk _ ho, d.mono hz⟩
  | cell v => obtain ⟨u, ⟨o, ho, r⟩, d⟩ := x; exact ⟨u, ⟨o, hk _ ho, r⟩, d.imp id fun ⟨w, a, b⟩ => ⟨w, a, b.mono hz⟩⟩
  | obj o => exact hk _ x
structure Cx where
  prog : Program
  w : World
  B : Heap
  os : OsState
noncomputable abbrev Cx.M (C : Cx) : Model := model C.prog C.w
structure Rel (C : Cx) (z : Fz) (R : Led) (s : Shared) : Prop where
  base : ∀ a o, C.B.get? a = some o → z a = some o
  kept : ∀ a o, z a = some o → s.heap.get? a = some o
  res : ∀ p ∈ R, ResAt z s.heap p.1 p.2 ∧ z p.1 = none
  nodup : (R.map (·.1)).Nodup
  gens : s.gens = #[]
  os : s.os = C.os
section
variable {C : Cx} {z z' : Fz} {R R' : Led} {s : Shared}
theorem Rel.toks (H : Rel C z R s) (t : Nat) : Rel C z R { s with toks := t } := ⟨H.base, H.kept, H.res, H.nodup, H.gens, H.os⟩
theorem Rel.keepB (H : Rel C z R s) : ∀ b o, C.B.get? b = some o → s.heap.get? b = some o := fun b o h => H.kept _ _ (H.base _ _ h)
theorem Rel.fresh (H : Rel C z R s) : z s.heap.objs.size = none := by
  cases h : z s.heap.objs.size with
  | none => rfl
  | some o => exact absurd (Heap.lt_size (H.kept _ _ h)) (Nat.lt_irrefl _)
theorem Rel.notIn (H : Rel C z R s) : s.heap.objs.size ∉ R.map (·.1) := fun h => by
  obtain ⟨p, hp, e⟩ := List.mem_map.mp h
  obtain ⟨o, ho⟩ := (H.res p hp).1.there
  rw [e] at ho
  exact absurd (Heap.lt_size ho) (Nat.lt_irrefl _)
theorem Rel.grown (H : Rel C z R s) {h' : Heap} {t : Nat} {a : Addr} (ha : z a = none) (hb : a ∉ R.map (·.1)) (hk : Heap.ExtBut a s.heap h') : Rel C z R { s with heap := h', toks := t } := by
  refine ⟨H.base, fun b o e => hk b o (fun q => ?_) (H.kept b o e), fun p hp => ⟨(H.res p hp).1.keeps (Ext.refl _) fun o e => hk _ o (fun q => hb (q ▸ List.mem_map_of_mem hp)) e, (H.res p hp).2⟩, H.nodup, H.gens, H.os⟩
  subst q; rw [ha] at e; cases e
noncomputable def zput (z : Fz) (a : Addr) (o : Obj) : Fz := fun b => if b = a then some o else z b
theorem zput_ext {a : Addr} {o : Obj} (h : z a = none) : Ext z (zput z a o) := fun b p e => by
  unfold zput
  by_cases q : b = a
  · subst q; rw [h] at e; cases e
  · rw [if_neg q]; exact e
theorem zput_self {a : Addr} {o : Obj} : zput z a o a = some o := if_pos rfl
theorem Rel.push (H : Rel C z R s) (o : Obj) (hfree : o.isFreed = false := by rfl) : Rel C (zput z s.heap.objs.size o) R { s with heap := s.heap.push o } := by
  have hx := zput_ext (o := o) H.fresh
  refine ⟨fun a p e => hx _ _ (H.base _ _ e), fun a p e => ?_, fun p hp => ⟨(H.res p hp).1.keeps hx fun _ e => Heap.get?_push_of_some _ e, ?_⟩, H.nodup, H.gens, H.os⟩
  · unfold zput at e
    by_cases q : a = s.heap.objs.size
    · rw [if_pos q] at e; cases e; subst q; exact Heap.get?_push_size _ hfree
    · rw [if_neg q] at e; exact Heap.get?_push_of_some _ (H.kept _ _ e)
  · unfold zput
    have hne : p.1 ≠ s.heap.objs.size := fun q => H.notIn (q ▸ List.mem_map_of_mem hp)
    rw [if_neg hne]
    exact (H.res p hp).2
theorem Rel.pushR (H : Rel C z R s) {o : Obj} {r : Res} (hr : ResAt z (s.heap.push o) s.heap.objs.size r) : Rel C z ((s.heap.objs.size, r) :: R) { s with heap := s.heap.push o } := by
  refine ⟨H.base, fun a p e => Heap.get?_push_of_some _ (H.kept _ _ e), fun p hp => ?_, ?_, H.gens, H.os⟩
  · rcases List.mem_cons.mp hp with rfl | hp
    · exact ⟨hr, H.fresh⟩
    · exact ⟨(H.res p hp).1.keeps (Ext.refl _) fun _ e => Heap.get?_push_of_some _ e, (H.res p hp).2⟩
  · exact List.nodup_cons.mpr ⟨H.notIn, H.nodup⟩
theorem Rel.more (H : Rel C z R s) {h' : Heap} {t : Nat} {r : Res} {a : Addr} (hr : ResAt z h' a r) (ha : z a = none) (hb : a ∉ R.map (·.1)) (hk : Heap.ExtBut a s.heap h') : Rel C z ((a, r) :: R) { s with heap := h', toks := t } := by
  have H' := H.grown (t := t) ha hb hk
  refine ⟨H'.base, H'.kept, fun p hp => ?_, List.nodup_cons.mpr ⟨hb, H.nodup⟩, H.gens, H.os⟩
  rcases List.mem_cons.mp hp with rfl | hp
  · exact ⟨hr, ha⟩
  · exact H'.res p hp
theorem Rel.sub (H : Rel C z R s) (hs : R'.Sublist R) : Rel C z R' s :=
  ⟨H.base, H.kept, fun p hp => H.res p (hs.subset hp), (hs.map _).nodup H.nodup, H.gens, H.os⟩
theorem Rel.tail {p : Addr × Res} (H : Rel C z (p :: R) s) : Rel C z R s := H.sub (List.sublist_cons_self _ _)
end
inductive Upd : Led → Addr → Res → Res → Led → Prop where
  | here {a : Addr} {r r' : Res} {R : Led} : Upd ((a, r) :: R) a r r' ((a, r') :: R)
  | there {a : Addr} {r r' : Res} {p : Addr × Res} {R R' : Led} : Upd R a r r' R' → Upd (p :: R) a r r' (p :: R')
theorem Upd.keys {R R' : Led} {a : Addr} {r r' : Res} (u : Upd R a r r' R') : R'.map (·.1) = R.map (·.1) := by
  induction u with
  | here => rfl
  | there _ ih => simp [ih]
theorem Upd.old {R R' : Led} {a : Addr} {r r' : Res} (u : Upd R a r r' R') : (a, r) ∈ R := by
  induction u with
  | here => exact .head _
  | there _ ih => exact .tail _ ih
theorem Upd.mem {R R' : Led} {a : Addr} {r r' : Res} (u : Upd R a r r' R') (hn : (R.map (·.1)).Nodup) : ∀ p ∈ R', p = (a, r') ∨ (p.1 ≠ a ∧ p ∈ R) := by
  induction u with
  | here =>
    intro p hp
    rcases List.mem_cons.mp hp with rfl | hp
    · exact .inl rfl
    · refine .inr ⟨fun e => ?_, .tail _ hp⟩
      have q := List.mem_map_of_mem (f := (·.1)) hp
      rw [e] at q
      exact (List.nodup_cons.mp hn).1 q
  | there u ih =>
    intro p hp
    rcases List.mem_cons.mp hp with rfl | hp
    · refine .inr ⟨fun e => ?_, .head _⟩
      have q := List.mem_map_of_mem (f := (·.1)) u.old
      exact (List.nodup_cons.mp hn).1 (by dsimp only; rw [e]; exact q)
    · exact (ih (List.nodup_cons.mp hn).2 p hp).imp id fun ⟨a, b⟩ => ⟨a, .tail _ b⟩
theorem Rel.upd {C : Cx} {z : Fz} {R R' : Led} {s : Shared} {a : Addr} {r r' : Res} (H : Rel C z R s) (u : Upd R a r r' R') {h' : Heap} {t : Nat} (hk : Heap.SameBut a s.heap h') (hr : ResAt z h' a r') : Rel C z R' { s with heap := h', toks := t } := by
  have ha := (H.res _ u.old).2
  refine ⟨H.base, fun b o e => (hk.2 b (fun q => ?_)).trans (H.kept b o e), fun p hp => ?_, u.keys ▸ H.nodup, H.gens, H.os⟩
  · subst q; rw [ha] at e; cases e
  · rcases u.mem H.nodup p hp with rfl | ⟨h1, h2⟩
    · exact ⟨hr, ha⟩
    · exact ⟨(H.res p h2).1.keeps (Ext.refl _) fun o e => (hk.2 _ h1).trans e, (H.res p h2).2⟩
inductive Put : List (Str × V) → Str → V → List (Str × V) → Prop where
  | here {x : Str} {u v : V} {m : List (Str × V)} : Put ((x, u) :: m) x v ((x, v) :: m)
  | there {x : Str} {v : V} {p : Str × V} {m m' : List (Str × V)} : Put m x v m' → Put (p :: m) x v (p :: m')
theorem Put.keys {m m' : List (Str × V)} {x : Str} {v : V} (u : Put m x v m') : m'.map (·.1) = m.map (·.1) := by
  induction u with
  | here => rfl
  | there _ ih => simp [ih]
theorem Put.isKey {m m' : List (Str × V)} {x : Str} {v : V} (u : Put m x v m') : x ∈ m.map (·.1) := by
  induction u with
  | here => exact .head _
  | there _ ih => exact .tail _ ih
theorem Put.mem {m m' : List (Str × V)} {x : Str} {v : V} (u : Put m x v m') (hn : (m.map (·.1)).Nodup) : ∀ p ∈ m', p = (x, v) ∨ (p.1 ≠ x ∧ p ∈ m) := by
  induction u with
  | here =>
    intro p hp
    rcases List.mem_cons.mp hp with rfl | hp
    · exact .inl rfl
    · refine .inr ⟨fun e => ?_, .tail _ hp⟩
      have q := List.mem_map_of_mem (f := (·.1)) hp
      rw [e] at q
      exact (List.nodup_cons.mp hn).1 q
  | there u ih =>
    intro p hp
    rcases List.mem_cons.mp hp with rfl | hp
    · refine .inr ⟨fun e => ?_, .head _⟩
      exact (List.nodup_cons.mp hn).1 (by dsimp only; rw [e]; exact u.isKey)
    · exact (ih (List.nodup_cons.mp hn).2 p hp).imp id fun ⟨a, b⟩ => ⟨a, .tail _ b⟩
theorem ResAt.put {z : Fz} {h h' : Heap} {a : Addr} {m m' : List (Str × V)} {x : Str} {v : V} {u : Value} {f : Str → Option Value} (hn : (m.map (·.1)).Nodup) (hf : ∀ p ∈ m, p.2 = .any ∨ ∃ v, f p.1 = some v ∧ Den z v p.2)
    (p : Put m x v m') (hN : h'.Ns a (fun y => if y = x then some u else f y)) (d : Den z u v) : ResAt z h' a (.ns m') := by
  refine ⟨p.keys ▸ hn, _, hN, fun q hq => ?_⟩
  rcases p.mem hn q hq with rfl | ⟨h1, h2⟩
  · exact .inr ⟨u, by simp, d⟩
  · exact (hf q h2).imp id fun ⟨v, e, d⟩ => ⟨v, by simp [h1, e], d⟩
inductive WkN : List (Str × V) → List (Str × V) → Prop where
  | nil : WkN [] []
  | same {p : Str × V} {m m' : List (Str × V)} : WkN m m' → WkN (p :: m) (p :: m')
  | any {x : Str} {v : V} {m m' : List (Str × V)} : WkN m m' → WkN ((x, v) :: m) ((x, .any) :: m')
inductive Wk : Led → Led → Prop where
  | nil : Wk [] []
  | rest {R : Led} : Wk R R
  | same {p : Addr × Res} {R R' : Led} : Wk R R' → Wk (p :: R) (p :: R')
  | ns {a : Addr} {m m' : List (Str × V)} {R R' : Led} : WkN m m' → Wk R R' → Wk ((a, .ns m) :: R) ((a, .ns m') :: R')
  | drop {p : Addr × Res} {R R' : Led} : Wk R R' → Wk (p :: R) R'
  | perm {R R₁ R' : Led} : R.Perm R₁ → Wk R₁ R' → Wk R R'
theorem WkN.keys {m m' : List (Str × V)} (k : WkN m m') : m'.map (·.1) = m.map (·.1) := by
  induction k with
  | nil => rfl
  | same _ ih => simp [ih]
  | any _ ih => simp [ih]
theorem WkN.mem {m m' : List (Str × V)} (k : WkN m m') : ∀ p ∈ m', p.2 = .any ∨ p ∈ m := by
  induction k with
  | nil => exact fun p hp => nomatch hp
  | same _ ih =>
    intro p hp
    rcases List.mem_cons.mp hp with rfl | hp
    · exact .inr (.head _)
    · exact (ih p hp).imp id fun h => .tail _ h
  | any _ ih =>
    intro p hp
    rcases List.mem_cons.mp hp with rfl | hp
    · exact .inl rfl
    · exact (ih p hp).imp id fun h => .tail _ h
theorem Wk.keys {R R' : Led} (k : Wk R R') : (R.map (·.1)).Nodup → (R'.map (·.1)).Nodup ∧ ∀ a ∈ R'.map (·.1), a ∈ R.map (·.1) := by
  induction k with
  | nil => exact fun h => ⟨h, fun _ x => x⟩
  | rest => exact fun h => ⟨h, fun _ x => x⟩
  | same _ ih =>
    intro h
    obtain ⟨a, b⟩ := ih (List.nodup_cons.mp h).2
    exact ⟨List.nodup_cons.mpr ⟨fun q => (List.nodup_cons.mp h).1 (b _ q), a⟩, fun x hx => (List.mem_cons.mp hx).elim (fun e => e ▸ .head _) fun q => .tail _ (b x q)⟩
  | ns _ _ ih =>
    intro h
    obtain ⟨a, b⟩ := ih (List.nodup_cons.mp h).2
    exact ⟨List.nodup_cons.mpr ⟨fun q => (List.nodup_cons.mp h).1 (b _ q), a⟩, fun x hx => (List.mem_cons.mp hx).elim (fun e => e ▸ .head _) fun q => .tail _ (b x q)⟩
  | drop _ ih =>
    intro h
    obtain ⟨a, b⟩ := ih (List.nodup_cons.mp h).2
    exact ⟨a, fun x hx => .tail _ (b x hx)⟩
  | perm p _ ih =>
    intro h
    obtain ⟨a, b⟩ := ih ((p.map _).nodup_iff.mp h)
    exact ⟨a, fun x hx => (p.map _).mem_iff.mpr (b x hx)⟩
theorem Wk.res {z : Fz} {h : Heap} {R R' : Led} (k : Wk R R') : (∀ p ∈ R, ResAt z h p.1 p.2 ∧ z p.1 = none) → ∀ p ∈ R', ResAt z h p.1 p.2 ∧ z p.1 = none := by
  induction k with
  | nil => exact id
  | rest => exact id
  | same _ ih => exact fun H p hp => (List.mem_cons.mp hp).elim (fun e => e ▸ H _ (.head _)) fun hp => ih (fun q hq => H q (.tail _ hq)) p hp
  | @ns a m m' _ _ k _ ih =>
    refine fun H p hp => (List.mem_cons.mp hp).elim (fun e => ?_) fun hp => ih (fun q hq => H q (.tail _ hq)) p hp
    subst e
    obtain ⟨⟨hn, f, hN, hf⟩, hz⟩ := H _ (.head _)
    exact ⟨⟨k.keys ▸ hn, f, hN, fun p hp => (k.mem p hp).elim .inl fun h => hf p h⟩, hz⟩
  | drop _ ih => exact fun H p hp => ih (fun q hq => H q (.tail _ hq)) p hp
  | perm e _ ih => exact fun H p hp => ih (fun q hq => H q (e.mem_iff.mpr hq)) p hp
theorem Rel.wk {C : Cx} {z : Fz} {R R' : Led} {s : Shared} (H : Rel C z R s) (k : Wk R R') : Rel C z R' s :=
  ⟨H.base, H.kept, k.res H.res, (k.keys H.nodup).1, H.gens, H.os⟩
noncomputable def VPost (C : Cx) (z : Fz) (Φ : V → Led → Prop) : Value → Shared → Prop :=
  fun u s' => ∃ z' R' v, Ext z z' ∧ Rel C z' R' s' ∧ Den z' u v ∧ Φ v R'
noncomputable abbrev NoE : Value → Shared → Prop := fun _ _ => False
noncomputable def Ev (C : Cx) (A : Around) (env : Env) (e : Expr) (R : Led) (Φ : V → Led → Prop) : Prop :=
  ∀ z s, Rel C z R s → 0 < s.toks → wpAny C.M A (eval e env) (VPost C z Φ) NoE s
noncomputable def BPost (C : Cx) (z : Fz) (Φ : Bool → Led → Prop) : Bool → Shared → Prop :=
  fun b s' => ∃ z' R', Ext z z' ∧ Rel C z' R' s' ∧ Φ b R'
noncomputable def Ts (C : Cx) (A : Around) (env : Env) (e : Expr) (R : Led) (Φ : Bool → Led → Prop) : Prop :=
  ∀ z s, Rel C z R s → 0 < s.toks → wpAny C.M A (isTrue e env (eval e env)) (BPost C z Φ) NoE s
inductive Fl where
  | next | brk | cont
  | ret (v : V)
inductive DenF (z : Fz) : Flow → Fl → Prop where
  | next : DenF z .next .next
  | brk : DenF z .brk .brk
  | cont : DenF z .cont .cont
  | ret {u : Value} {v : V} : Den z u v → DenF z (.ret u) (.ret v)
noncomputable def FPost (C : Cx) (z : Fz) (Ψ : Fl → Led → Prop) : Flow → Shared → Prop :=
  fun f s' => ∃ z' R' g, Ext z z' ∧ Rel C z' R' s' ∧ DenF z' f g ∧ Ψ g R'
noncomputable def Ex (C : Cx) (A : Around) (env : Env) (b : List Stmt) (R : Led) (Ψ : Fl → Led → Prop) : Prop :=
  ∀ z s, Rel C z R s → 0 < s.toks → wpAny C.M A (execs b env) (FPost C z Ψ) NoE s
noncomputable def Ex1 (C : Cx) (A : Around) (env : Env) (b : Stmt) (R : Led) (Ψ : Fl → Led → Prop) : Prop :=
  ∀ z s, Rel C z R s → 0 < s.toks → wpAny C.M A (exec b env) (FPost C z Ψ) NoE s
noncomputable def UPost (C : Cx) (z : Fz) (Φ : Led → Prop) : Unit → Shared → Prop :=
  fun _ s' => ∃ z' R', Ext z z' ∧ Rel C z' R' s' ∧ Φ R'
noncomputable def As (C : Cx) (A : Around) (env : Env) (t : Expr) (v : V) (R : Led) (Φ : Led → Prop) : Prop :=
  ∀ z s u, Rel C z R s → 0 < s.toks → Den z u v → wpAny C.M A (assign t env u) (UPost C z Φ) NoE s
noncomputable def Cl (C : Cx) (A : Around) (f : V) (vs : List V) (R : Led) (Φ : V → Led → Prop) : Prop :=
  ∀ z s u us, Rel C z R s → 0 < s.toks → Den z u f → DenL z us vs → wpAny C.M A (call u us) (VPost C z Φ) NoE s
section
variable {C : Cx} {A : Around} {env : Env} {z z' : Fz} {R : Led} {s : Shared}
theorem VPost.mk {Φ : V → Led → Prop} {u : Value} {v : V} (H : Rel C z R s) (d : Den z u v) (h : Φ v R) : VPost C z Φ u s := ⟨z, R, v, Ext.refl _, H, d, h⟩
theorem VPost.ext {Φ : V → Led → Prop} {u : Value} (e : Ext z z') (h : VPost C z' Φ u s) : VPost C z Φ u s :=
  let ⟨z2, R', v, e2, r⟩ := h; ⟨z2, R', v, e.trans e2, r⟩
theorem BPost.ext {Φ : Bool → Led → Prop} {u : Bool} (e : Ext z z') (h : BPost C z' Φ u s) : BPost C z Φ u s :=
  let ⟨z2, R', e2, r⟩ := h; ⟨z2, R', e.trans e2, r⟩
theorem FPost.ext {Φ : Fl → Led → Prop} {u : Flow} (e : Ext z z') (h : FPost C z' Φ u s) : FPost C z Φ u s :=
  let ⟨z2, R', v, e2, r⟩ := h; ⟨z2, R', v, e.trans e2, r⟩
theorem UPost.ext {Φ : Led → Prop} {u : Unit} (e : Ext z z') (h : UPost C z' Φ u s) : UPost C z Φ u s :=
  let ⟨z2, R', e2, r⟩ := h; ⟨z2, R', e.trans e2, r⟩
theorem wpNo {α : Type} {M : Model} {t : Sem α} {Q Q' : α → Shared → Prop} {E : Value → Shared → Prop} (t0 : 0 < s.toks) (h : wpAny M A t Q NoE s) (hQ : ∀ a s', 0 < s'.toks → Q a s' → Q' a s') : wpAny M A t Q' E s :=
  wpAny_mono (wpAny_toks_of (n := 1) t0 h) (fun a s' x => hQ a s' x.1 x.2) fun _ _ x => x.2.elim
theorem Ev.then {e : Expr} {Φ : V → Led → Prop} {Q : Value → Shared → Prop} (h : Ev C A env e R Φ) (H : Rel C z R s) (t : 0 < s.toks)
    (k : ∀ z' R' v u s', Ext z z' → Rel C z' R' s' → 0 < s'.toks → Den z' u v → Φ v R' → Q u s') : wpAny C.M A (eval e env) Q NoE s :=
  wpNo t (h z s H t) fun u s' t' ⟨z', R', v, e, H', d, p⟩ => k z' R' v u s' e H' t' d p
theorem Ts.then {e : Expr} {Φ : Bool → Led → Prop} {Q : Bool → Shared → Prop} (h : Ts C A env e R Φ) (H : Rel C z R s) (t : 0 < s.toks)
    (k : ∀ z' R' b s', Ext z z' → Rel C z' R' s' → 0 < s'.toks → Φ b R' → Q b s') : wpAny C.M A (isTrue e env (eval e env)) Q NoE s :=
  wpNo t (h z s H t) fun b s' t' ⟨z', R', e, H', p⟩ => k z' R' b s' e H' t' p
theorem Ex1.then {b : Stmt} {Ψ : Fl → Led → Prop} {Q : Flow → Shared → Prop} (h : Ex1 C A env b R Ψ) (H : Rel C z R s) (t : 0 < s.toks)
    (k : ∀ z' R' g f s', Ext z z' → Rel C z' R' s' → 0 < s'.toks → DenF z' f g → Ψ g R' → Q f s') : wpAny C.M A (exec b env) Q NoE s :=
  wpNo t (h z s H t) fun u s' t' ⟨z', R', v, e, H', d, p⟩ => k z' R' v u s' e H' t' d p
theorem Ex.then {b : List Stmt} {Ψ : Fl → Led → Prop} {Q : Flow → Shared → Prop} (h : Ex C A env b R Ψ) (H : Rel C z R s) (t : 0 < s.toks)
    (k : ∀ z' R' g f s', Ext z z' → Rel C z' R' s' → 0 < s'.toks → DenF z' f g → Ψ g R' → Q f s') : wpAny C.M A (execs b env) Q NoE s :=
  wpNo t (h z s H t) fun u s' t' ⟨z', R', v, e, H', d, p⟩ => k z' R' v u s' e H' t' d p
theorem As.then {e : Expr} {v : V} {u : Value} {Φ : Led → Prop} {Q : Unit → Shared → Prop} (h : As C A env e v R Φ) (H : Rel C z R s) (t : 0 < s.toks) (d : Den z u v)
    (k : ∀ z' R' s', Ext z z' → Rel C z' R' s' → 0 < s'.toks → Φ R' → Q () s') : wpAny C.M A (assign e env u) Q NoE s :=
  wpNo t (h z s u H t d) fun _ s' t' ⟨z', R', e, H', p⟩ => k z' R' s' e H' t' p
theorem Cl.then {f : V} {vs : List V} {u : Value} {us : List Value} {Φ : V → Led → Prop} {Q : Value → Shared → Prop} (h : Cl C A f vs R Φ) (H : Rel C z R s) (t : 0 < s.toks) (d : Den z u f) (ds : DenL z us vs)
    (k : ∀ z' R' v u s', Ext z z' → Rel C z' R' s' → 0 < s'.toks → Den z' u v → Φ v R' → Q u s') : wpAny C.M A (call u us) Q NoE s :=
  wpNo t (h z s u us H t d ds) fun u s' t' ⟨z', R', v, e, H', d, p⟩ => k z' R' v u s' e H' t' d p
theorem Ev.mono {e : Expr} {Φ Φ' : V → Led → Prop} (h : Ev C A env e R Φ) (k : ∀ v R', Φ v R' → Φ' v R') : Ev C A env e R Φ' :=
  fun z s H t => h.then H t fun z' R' v u s' e H' _ d p => ⟨z', R', v, e, H', d, k _ _ p⟩
theorem Ex.mono {b : List Stmt} {Φ Φ' : Fl → Led → Prop} (h : Ex C A env b R Φ) (k : ∀ v R', Φ v R' → Φ' v R') : Ex C A env b R Φ' :=
  fun z s H t => h.then H t fun z' R' v u s' e H' _ d p => ⟨z', R', v, e, H', d, k _ _ p⟩
theorem Ex.wk {b : List Stmt} {R' : Led} {Ψ : Fl → Led → Prop} (k : Wk R R') (h : Ex C A env b R' Ψ) : Ex C A env b R Ψ := fun z s H t => h z s (H.wk k) t
end
structure GX (C : Cx) (mg mb : Str → Option Value) : Prop where
  g : C.B.Ns mainGlobals mg
  b : C.B.Ns builtinsNs mb
  nolimit : C.B.NoLimit
  boot : ∀ x : Str, x ≠ "__name__" → mb x = bootBuiltins x
noncomputable def V.isAny : V → Bool
  | .any => true
  | _ => false
section
variable {C : Cx} {A : Around} {env : Env} {R : Led} {mg mb : Str → Option Value} {Φ : V → Led → Prop} {k : Nat} {pos : Pos}
theorem Ev.int {i : Int} (h : Φ (.int i) R) : Ev C A env (.Constant (.int i) k pos) R Φ :=
  fun z s H t => wpAny_Constant_int (.mk (H.toks _) (.int _ _) h)
theorem Ev.str {x : Str} (h : Φ (.str x) R) : Ev C A env (.Constant (.str x) k pos) R Φ :=
  fun z s H t => wpAny_Constant_str (.mk (H.toks _) (.str _ _) h)
theorem Ev.none (h : Φ .none R) : Ev C A env (.Constant .none k pos) R Φ :=
  fun z s H t => wpAny_Constant_none (.mk H .none h)
theorem Rel.ns {z : Fz} {s : Shared} {L : Addr} {m : List (Str × V)} {x : Str} {v : V} (H : Rel C z R s) (hL : (L, .ns m) ∈ R) (hx : (x, v) ∈ m) (hv : v.isAny = false) : ∃ f u, s.heap.Ns L f ∧ f x = some u ∧ Den z u v := by
  obtain ⟨⟨_, f, hN, hf⟩, _⟩ := H.res _ hL
  rcases hf _ hx with e | ⟨u, e, d⟩
  · dsimp only at e; subst e; cases hv
  · exact ⟨f, u, hN, e, d⟩
theorem Rel.att {z : Fz} {s : Shared} {L : Addr} {m : List (Str × V)} (H : Rel C z R s) (hL : (L, .att m) ∈ R) : (m.map (·.1)).Nodup ∧ ∃ es n, s.heap.get? L = some (dictOf es n) ∧ DenE z es m := (H.res _ hL).1
theorem Rel.list {z : Fz} {s : Shared} {L : Addr} {vs : List V} (H : Rel C z R s) (hL : (L, .list vs) ∈ R) : ∃ items, s.heap.IsList L items ∧ DenL z items.toList vs := by
  obtain ⟨⟨it, n, h1, d⟩, _⟩ := H.res _ hL
  exact ⟨it, ⟨_, h1, rfl, n, rfl⟩, d⟩
theorem Ev.loc {L : Addr} {m : List (Str × V)} {x : Str} {v : V} (hL : (L, .ns m) ∈ R) (hx : (x, v) ∈ m) (h : Φ v R) (hv : v.isAny = false := by rfl) (hk : env.scope.kind = .function := by rfl)
    (hl : env.kindOf x = some .local := by rfl) (he : env.locals = L := by rfl) (hd : (x == ("__debug__" : Str)) = false := by decide) : Ev C A env (.Name x pos) R Φ := fun z s H t => by
  obtain ⟨f, u, hN, hu, d⟩ := H.ns hL hx hv
  exact wpAny_Name (wpAny_loadName_local hk hl (he ▸ hN) hu (.mk H d h)) hd
theorem Rel.cell {z : Fz} {s : Shared} {c : Addr} {v : V} (H : Rel C z R s) (hL : (c, .cell v) ∈ R) (hv : v.isAny = false) : ∃ u, s.heap.IsCell c (some u) ∧ Den z u v := by
  obtain ⟨⟨u, hc, e⟩, _⟩ := H.res _ hL
  rcases e with e | ⟨w, rfl, d⟩
  · subst e; cases hv
  · exact ⟨w, hc, d⟩
theorem Ev.cellv {c : Addr} {x : Str} {v : V} (hL : (c, .cell v) ∈ R) (h : Φ v R) (hv : v.isAny = false := by rfl) (hk : env.scope.kind = .function := by rfl)
    (hl : env.kindOf x = some .cell := by rfl) (he : env.cells.lookup x = some c := by rfl) (hd : (x == ("__debug__" : Str)) = false := by decide) : Ev C A env (.Name x pos) R Φ := fun z s H t => by
  obtain ⟨u, hu, d⟩ := H.cell hL hv
  exact wpAny_Name (wpAny_loadName_cell hk hl he hu (.mk H d h)) hd
theorem Ev.glob {x : Str} {u : Value} {v : V} (G : GX C mg mb) (hx : mg x = some u) (d : ∀ z, Den z u v) (h : Φ v R) (hk : env.scope.kind = .function := by rfl)
    (hl : env.kindOf x = some .globalImplicit := by rfl) (he : env.globals = mainGlobals := by rfl) (hd : (x == ("__debug__" : Str)) = false := by decide) : Ev C A env (.Name x pos) R Φ := fun z s H t =>
  Calls.Name_function_global hk hl (Calls.loadGlobal_global (he ▸ G.g.keeps H.keepB) hx (.mk H (d z) h)) hd
theorem Ev.blt {x : Str} {u : Value} {v : V} (G : GX C mg mb) (hx : mg x = .none) (hb : bootBuiltins x = some u) (d : ∀ z, Den z u v) (h : Φ v R) (hn : x ≠ "__name__" := by decide) (hk : env.scope.kind = .function := by rfl)
    (hl : env.kindOf x = some .globalImplicit := by rfl) (he : env.globals = mainGlobals := by rfl) (he2 : env.builtins = builtinsNs := by rfl) (hd : (x == ("__debug__" : Str)) = false := by decide) : Ev C A env (.Name x pos) R Φ := fun z s H t =>
  Calls.Name_function_global hk hl (Calls.loadGlobal_builtin (he ▸ G.g.keeps H.keepB) hx (he2 ▸ G.b.keeps H.keepB) ((G.boot x hn).trans hb) (.mk H (d z) h)) hd
noncomputable def Op2 (C : Cx) (A : Around) (op : Operator) (a b : V) (R : Led) (Φ : V → Led → Prop) : Prop :=
  ∀ z s u v, Rel C z R s → 0 < s.toks → Den z u a → Den z v b → wpAny C.M A (binaryOp op u v) (VPost C z Φ) NoE s
theorem Ev.bin {l r : Expr} {op : Operator} (h : Ev C A env l R fun a R₁ => Ev C A env r R₁ fun b R₂ => Op2 C A op a b R₂ Φ) : Ev C A env (.BinOp l op r pos) R Φ := fun z s H t =>
  wpAny_BinOp (h.then H t fun z₁ R₁ a u s₁ e₁ H₁ t₁ d₁ h₁ => h₁.then H₁ t₁ fun z₂ R₂ b v s₂ e₂ H₂ t₂ d₂ h₂ =>
    wpNo t₂ (h₂ z₂ s₂ u v H₂ t₂ (d₁.mono e₂) d₂) fun _ _ _ p => p.ext (e₁.trans e₂))
noncomputable def Cmp (C : Cx) (A : Around) (op : CmpOp) (a b : V) (R : Led) (Φ : Bool → Led → Prop) : Prop :=
  ∀ z s u v, Rel C z R s → 0 < s.toks → Den z u a → Den z v b → wpAny C.M A (compareOp op u v) (fun r s' => ∃ b, r = .bool b ∧ BPost C z Φ b s') NoE s
theorem Ev.cmp {l r : Expr} {op : CmpOp} (h : Ev C A env l R fun a R₁ => Ev C A env r R₁ fun b R₂ => Cmp C A op a b R₂ fun c R₃ => Φ (.bool c) R₃)
    (hm : behindInMarks op r = false := by with_unfolding_all rfl) : Ev C A env (.Compare l [op] [r] pos) R Φ := fun z s H t =>
  wpAny_Compare1 (h.then H t fun z₁ R₁ a u s₁ e₁ H₁ t₁ d₁ h₁ => h₁.then H₁ t₁ fun z₂ R₂ b v s₂ e₂ H₂ t₂ d₂ h₂ =>
    wpNo t₂ (h₂ z₂ s₂ u v H₂ t₂ (d₁.mono e₂) d₂) fun _ _ _ ⟨b, e, z₃, R₃, e₃, H₃, p⟩ => e ▸ ⟨z₃, R₃, _, (e₁.trans e₂).trans e₃, H₃, .bool b, p⟩) hm
theorem Ts.cmp {l r : Expr} {op : CmpOp} {Φ : Bool → Led → Prop} (h : Ev C A env l R fun a R₁ => Ev C A env r R₁ fun b R₂ => Cmp C A op a b R₂ Φ)
    (hm : behindInMarks op r = false := by with_unfolding_all rfl) : Ts C A env (.Compare l [op] [r] pos) R Φ := fun z s H t =>
  wpAny_isTrue_Compare1 (h.then H t fun z₁ R₁ a u s₁ e₁ H₁ t₁ d₁ h₁ => h₁.then H₁ t₁ fun z₂ R₂ b v s₂ e₂ H₂ t₂ d₂ h₂ =>
    wpNo t₂ (h₂ z₂ s₂ u v H₂ t₂ (d₁.mono e₂) d₂) fun _ _ _ ⟨b, e, p⟩ => e ▸ wpAny_truthy_bool (p.ext (e₁.trans e₂))) hm
noncomputable def Tr (C : Cx) (A : Around) (a : V) (R : Led) (Φ : Bool → Led → Prop) : Prop :=
  ∀ z s u, Rel C z R s → 0 < s.toks → Den z u a → wpAny C.M A (truthy u) (BPost C z Φ) NoE s
theorem Ts.val {e : Expr} {Φ : Bool → Led → Prop} (h : Ev C A env e R fun a R₁ => Tr C A a R₁ Φ)
    (he : isTrue e env (eval e env) = (do let v ← eval e env; standAt e.pos; holding [v] (truthy v)) := by rfl) : Ts C A env e R Φ := fun z s H t =>
  wpAny_isTrue_value (h.then H t fun z₁ R₁ a u s₁ e₁ H₁ t₁ d₁ h₁ => wpNo t₁ (h₁ z₁ s₁ u H₁ t₁ d₁) fun _ _ _ p => p.ext e₁) he
theorem Tr.bool {b : Bool} {Φ : Bool → Led → Prop} (h : Φ b R) : Tr C A (.bool b) R Φ := fun z s u H t d => by
  obtain rfl := d.boolI; exact wpAny_truthy_bool ⟨z, R, Ext.refl _, H, h⟩
theorem Tr.none {Φ : Bool → Led → Prop} (h : Φ false R) : Tr C A .none R Φ := fun z s u H t d => by
  obtain rfl := d.noneI; exact truthy_none ⟨z, R, Ext.refl _, H, h⟩
theorem Ts.not {x : Expr} {Φ : Bool → Led → Prop} (h : Ts C A env x R fun b R₁ => Φ (!b) R₁) : Ts C A env (.UnaryOp .Not x pos) R Φ := fun z s H t =>
  isTrue_not (h.then H t fun z₁ R₁ b s₁ e₁ H₁ t₁ h₁ => ⟨z₁, R₁, e₁, H₁, h₁⟩)
theorem Ts.and_nil {Φ : Bool → Led → Prop} (h : Φ true R) : Ts C A env (.BoolOp .And [] pos) R Φ := fun z s H t => isTrue_and_nil ⟨z, R, Ext.refl _, H, h⟩
theorem Ts.or_nil {Φ : Bool → Led → Prop} (h : Φ false R) : Ts C A env (.BoolOp .Or [] pos) R Φ := fun z s H t => isTrue_or_nil ⟨z, R, Ext.refl _, H, h⟩
theorem Ts.and {x : Expr} {rest : List Expr} {Φ : Bool → Led → Prop} (h : Ts C A env x R fun b R₁ => if b = true then Ts C A env (.BoolOp .And rest pos) R₁ Φ else Φ false R₁) :
    Ts C A env (.BoolOp .And (x :: rest) pos) R Φ := fun z s H t =>
  isTrue_and (h.then H t fun z₁ R₁ b s₁ e₁ H₁ t₁ h₁ => by
    cases b with
    | false => exact ⟨z₁, R₁, e₁, H₁, h₁⟩
    | true => exact wpNo t₁ (show wpAny _ _ (isTrue (.BoolOp .And rest pos) env _) _ _ _ from h₁ z₁ s₁ H₁ t₁) fun _ _ _ p => p.ext e₁)
theorem Ts.or {x : Expr} {rest : List Expr} {Φ : Bool → Led → Prop} (h : Ts C A env x R fun b R₁ => if b = true then Φ true R₁ else Ts C A env (.BoolOp .Or rest pos) R₁ Φ) :
    Ts C A env (.BoolOp .Or (x :: rest) pos) R Φ := fun z s H t =>
  isTrue_or (h.then H t fun z₁ R₁ b s₁ e₁ H₁ t₁ h₁ => by
    cases b with
    | true => exact ⟨z₁, R₁, e₁, H₁, h₁⟩
    | false => exact wpNo t₁ (show wpAny _ _ (isTrue (.BoolOp .Or rest pos) env _) _ _ _ from h₁ z₁ s₁ H₁ t₁) fun _ _ _ p => p.ext e₁)
end
section
variable {C : Cx} {A : Around} {env : Env} {R : Led} {mg mb : Str → Option Value} {Φ : V → Led → Prop} {Ψ : Fl → Led → Prop} {k : Nat} {pos : Pos}
theorem Ex.nil (h : Ψ .next R) : Ex C A env [] R Ψ := fun z s H t => wpAny_execs_nil ⟨z, R, _, Ext.refl _, H, .next, h⟩
noncomputable def Seq (C : Cx) (A : Around) (env : Env) (rest : List Stmt) (Ψ : Fl → Led → Prop) : Fl → Led → Prop
  | .next, R => Ex C A env rest R Ψ
  | .brk, R => Ψ .brk R
  | .cont, R => Ψ .cont R
  | .ret v, R => Ψ (.ret v) R
theorem Ex.cons {st : Stmt} {rest : List Stmt} (h : Ex1 C A env st R (Seq C A env rest Ψ)) : Ex C A env (st :: rest) R Ψ := fun z s H t =>
  wpAny_execs_cons (h.then H t fun z' R' g f s' e H' t' d p => by
    cases d with
    | next => exact wpNo t' (p z' s' H' t') fun _ _ _ q => q.ext e
    | brk => exact ⟨z', R', _, e, H', .brk, p⟩
    | cont => exact ⟨z', R', _, e, H', .cont, p⟩
    | ret d => exact ⟨z', R', _, e, H', .ret d, p⟩)
noncomputable def Sto (C : Cx) (A : Around) (env : Env) (x : Str) (v : V) (R : Led) (Φ : Led → Prop) : Prop :=
  ∀ z s u, Rel C z R s → 0 < s.toks → Den z u v → wpAny C.M A (storeName env x u) (UPost C z Φ) NoE s
theorem Sto.loc {L : Addr} {m m' : List (Str × V)} {x : Str} {v : V} {R' : Led} {Φ : Led → Prop} (hm : (L, .ns m) ∈ R) (p : Put m x v m') (u : Upd R L (.ns m) (.ns m') R') (h : Φ R')
    (hl : env.kindOf x = some .local := by rfl) (he : env.locals = L := by rfl) (hp : (env.scope.kind == .class || (env.scope.kind == .module && env.locals != env.globals)) = false := by rfl) : Sto C A env x v R Φ := fun z s w H t d => by
  obtain ⟨⟨hn, f, hN, hf⟩, _⟩ := H.res _ u.old
  refine wpAny_storeName_local hl (he ▸ hN) (fun h' hN' hs => ⟨z, R', Ext.refl _, H.upd u (he ▸ hs) (.put (h := s.heap) hn hf p (he ▸ hN') d), h⟩) hp
theorem Sto.cell {c : Addr} {x : Str} {v v₀ : V} {R' : Led} {Φ : Led → Prop} (u : Upd R c (.cell v₀) (.cell v) R') (h : Φ R')
    (hk : env.scope.kind = .function := by rfl) (hl : env.kindOf x = some .cell := by rfl) (he : env.cells.lookup x = some c := by rfl) : Sto C A env x v R Φ := fun z s w H t d => by
  obtain ⟨⟨o, hc, _⟩, _⟩ := H.res _ u.old
  exact wpAny_storeName_cell hk hl he hc fun h' hc' hs => ⟨z, R', Ext.refl _, H.upd u hs ⟨_, hc', .inr ⟨w, rfl, d⟩⟩, h⟩
theorem As.name {x : Str} {v : V} {Φ : Led → Prop} (h : Sto C A env x v R Φ) : As C A env (.Name x pos) v R Φ := fun z s u H t d => wpAny_assign_Name (h z s u H t d)
theorem Ex1.assign {x : Str} {pos' : Pos} {value : Expr} (h : Ev C A env value R fun v R₁ => Sto C A env x v R₁ fun R₂ => Ψ .next R₂)
    (hs : swapsWith value (some (.Name x pos')) pos.line env = pure false := by rfl) : Ex1 C A env (.Assign [.Name x pos'] value pos) R Ψ := fun z s H t =>
  wpAny_Assign_Name (h.then H t fun z₁ R₁ v u s₁ e₁ H₁ t₁ d₁ h₁ => wpNo t₁ (h₁ z₁ s₁ u H₁ t₁ d₁) fun _ s₂ _ ⟨z₂, R₂, e₂, H₂, p⟩ => ⟨z₂, R₂, _, e₁.trans e₂, H₂, .next, p⟩) hs
noncomputable def AsL (C : Cx) (A : Around) (env : Env) : List Expr → List V → Led → (Led → Prop) → Prop
  | [], [], R, Φ => Φ R
  | e :: es, v :: vs, R, Φ => As C A env e v R fun R' => AsL C A env es vs R' Φ
  | _, _, _, _ => False
noncomputable def isName : Expr → Bool
  | .Name .. => true
  | _ => false
theorem isName_is {e : Expr} (h : isName e = true) : ∃ x p, e = .Name x p := by
  cases e <;> first | exact ⟨_, _, rfl⟩ | exact nomatch (show false = true from h)
theorem assignEach_names {es : List Expr} (h : es.all isName = true) : (assignEach es env).map (·.2) = es.map (fun e => assign e env) ∧ (assignEach es env).findIdx? (·.1) = none ∧ (assignEach es env).length = es.length := by
  induction es with
  | nil => exact ⟨rfl, rfl, rfl⟩
  | cons e es ih =>
    rw [List.all_cons, Bool.and_eq_true] at h
    obtain ⟨x, p, rfl⟩ := isName_is h.1
    obtain ⟨a, b, c⟩ := ih h.2
    refine ⟨?_, ?_, ?_⟩
    · show assign (.Name x p) env :: (assignEach es env).map (·.2) = _
      rw [a]; rfl
    · show List.findIdx? _ ((false, assign (.Name x p) env) :: assignEach es env) = none
      rw [List.findIdx?_cons]
      simp [b]
    · show (assignEach es env).length + 1 = _
      rw [c]; rfl
theorem AsL.sound {Φ : Led → Prop} {es : List Expr} : ∀ {vs : List V} {us : List Value} {R : Led} {z : Fz} {s : Shared}, AsL C A env es vs R Φ → Rel C z R s → 0 < s.toks → DenL z us vs →
    wpAny C.M A (assignInOrder (es.map fun e => assign e env) us) (UPost C z Φ) NoE s := by
  induction es with
  | nil =>
    intro vs us R z s h H t ds
    cases ds with
    | nil => exact wpAny_assignInOrder_none ⟨z, R, Ext.refl _, H, h⟩
    | cons => exact h.elim
  | cons e es ih =>
    intro vs us R z s h H t ds
    cases ds with
    | nil => exact h.elim
    | cons d ds =>
      show wpAny _ _ (assignInOrder ((fun x => assign e env x) :: es.map fun e => assign e env) _) _ _ _
      refine wpAny_assignInOrder_more (As.then h H t d fun z₁ R₁ s₁ e₁ H₁ t₁ h₁ => ?_)
      exact wpNo t₁ (ih h₁ H₁ t₁ (ds.mono e₁)) fun _ _ _ p => p.ext e₁
theorem Den.tupIs {z : Fz} {s : Shared} {u : Value} {vs : List V} (H : Rel C z R s) (d : Den z u (.tup vs)) : ∃ a items, u = .ref a ∧ s.heap.IsTuple a items ∧ DenL z items.toList vs := by
  cases d with
  | tup h1 h2 h3 d => exact ⟨_, _, rfl, ⟨_, H.kept _ _ h1, h2, _, h3⟩, d⟩
theorem Den.lstIs {z : Fz} {s : Shared} {u : Value} {vs : List V} (H : Rel C z R s) (d : Den z u (.lst vs)) : ∃ a items, u = .ref a ∧ s.heap.IsList a items ∧ DenL z items.toList vs := by
  cases d with
  | lst h1 h2 h3 d => exact ⟨_, _, rfl, ⟨_, H.kept _ _ h1, h2, _, h3⟩, d⟩
theorem As.tuple {es : List Expr} {vs : List V} {k : Nat} {Φ : Led → Prop} (h : AsL C A env es vs R Φ) (hh : A.handled = none) (hn : es.all isName = true := by rfl) (hl : es.length = vs.length := by rfl) : As C A env (.Tuple es k pos) (.tup vs) R Φ := fun z s u H t d => by
  obtain ⟨a, items, rfl, ht, ds⟩ := d.tupIs H
  obtain ⟨a1, a2, a3⟩ := assignEach_names (env := env) hn
  refine wpAny_assign_Tuple hh ht (by rw [a3, hl, ← ds.length, Array.length_toList]) a2 fun h' he => ?_
  rw [a1]
  exact AsL.sound h (H.grown (t := s.toks) H.fresh H.notIn he) t ds
theorem Ex1.assignT {es : List Expr} {k : Nat} {tpos : Pos} {value : Expr} (h : Ev C A env value R fun v R₁ => As C A env (.Tuple es k tpos) v R₁ fun R₂ => Ψ .next R₂)
    (hs : swapsWithSole [.Tuple es k tpos] value pos.line env = pure false := by rfl) (hw : swappedStores [.Tuple es k tpos] value env = pure Option.none := by rfl) : Ex1 C A env (.Assign [.Tuple es k tpos] value pos) R Ψ := fun z s H t =>
  Assign_Tuple (h.then H t fun z₁ R₁ v u s₁ e₁ H₁ t₁ d₁ h₁ => wpNo t₁ (h₁ z₁ s₁ u H₁ t₁ d₁) fun _ s₂ _ ⟨z₂, R₂, e₂, H₂, p⟩ => ⟨z₂, R₂, _, e₁.trans e₂, H₂, .next, p⟩) hs hw
noncomputable def StoL (C : Cx) (A : Around) (env : Env) : List Str → List V → Led → (Led → Prop) → Prop
  | [], [], R, Φ => Φ R
  | e :: es, v :: vs, R, Φ => Sto C A env e v R fun R' => StoL C A env es vs R' Φ
  | _, _, _, _ => False
theorem StoL.sound {Φ : Led → Prop} {es : List Str} : ∀ {vs : List V} {us : List Value} {R : Led} {z : Fz} {s : Shared}, StoL C A env es vs R Φ → Rel C z R s → 0 < s.toks → DenL z us vs →
    wpAny C.M A (assignInOrder (es.map fun n => bindName env n) us) (UPost C z Φ) NoE s := by
  induction es with
  | nil =>
    intro vs us R z s h H t ds
    cases ds with
    | nil => exact wpAny_assignInOrder_none ⟨z, R, Ext.refl _, H, h⟩
    | cons => exact h.elim
  | cons e es ih =>
    intro vs us R z s h H t ds
    cases ds with
    | nil => exact h.elim
    | @cons w _ _ _ d ds =>
      show wpAny _ _ (assignInOrder ((fun x => bindName env e x) :: es.map fun n => bindName env n) _) _ _ _
      refine wpAny_assignInOrder_more (wpAny_bindName (wpNo t (show wpAny C.M A (storeName env e w) _ _ _ from h z s w H t d) fun _ s₁ t₁ ⟨z₁, R₁, e₁, H₁, h₁⟩ => ?_))
      exact wpNo t₁ (ih h₁ H₁ t₁ (ds.mono e₁)) fun _ _ _ p => p.ext e₁
theorem DenL.reverse {z : Fz} : ∀ {us : List Value} {vs : List V}, DenL z us vs → DenL z us.reverse vs.reverse
  | _, _, .nil => .nil
  | _, _, .cons d ds => by simpa using ds.reverse.append (.cons d .nil)
theorem Ex1.assignS {es : List Expr} {names : List Str} {k : Nat} {tpos : Pos} {value : Expr} (hh : A.handled = none)
    (h : Ev C A env value R fun v R₁ => ∃ vs, v = .tup vs ∧ vs.length = names.length ∧ StoL C A env names.reverse vs.reverse R₁ fun R₂ => Ψ .next R₂)
    (hs : swapsWithSole [.Tuple es k tpos] value pos.line env = pure false := by rfl) (hw : swappedStores [.Tuple es k tpos] value env = pure (some names) := by rfl) : Ex1 C A env (.Assign [.Tuple es k tpos] value pos) R Ψ := fun z s H t =>
  Assign_Tuple_swapped (names := names) (h.then H t fun z₁ R₁ v u s₁ e₁ H₁ t₁ d₁ ⟨vs, hv, hl, h₁⟩ => by
    subst hv
    obtain ⟨a, items, rfl, ht, ds⟩ := d₁.tupIs H₁
    rw [show names.length = items.size by rw [← hl, ← ds.length, Array.length_toList]]
    refine wpAny_unpackItems_tuple hh ht fun h' he => ?_
    exact wpNo (s := { s₁ with heap := h' }) t₁ (StoL.sound h₁ (H₁.grown (t := s₁.toks) H₁.fresh H₁.notIn he) t₁ ds.reverse) fun _ s₂ _ ⟨z₂, R₂, e₂, H₂, p⟩ => ⟨z₂, R₂, _, e₁.trans e₂, H₂, .next, p⟩) hs hw
theorem Ex1.assign2 {t₁ t₂ value : Expr} (h : Ev C A env value R fun v R₁ => As C A env t₁ v R₁ fun R₂ => As C A env t₂ v R₂ fun R₃ => Ψ .next R₃)
    (he : (assignEach [t₁, t₂] env).map (·.2) = [PySem.assign t₁ env, PySem.assign t₂ env] := by rfl) (hw : swappedStores [t₁, t₂] value env = pure Option.none := by rfl) : Ex1 C A env (.Assign [t₁, t₂] value pos) R Ψ := fun z s H t =>
  wpAny_Assign_two (h.then H t fun z₁ R₁ v u s₁ e₁ H₁ t₁ d₁ h₁ => As.then h₁ H₁ t₁ d₁ fun z₂ R₂ s₂ e₂ H₂ t₂ h₂ => As.then h₂ H₂ t₂ (d₁.mono e₂) fun z₃ R₃ s₃ e₃ H₃ t₃ h₃ =>
    ⟨z₃, R₃, _, (e₁.trans e₂).trans e₃, H₃, .next, h₃⟩) he hw
theorem Ex1.ite {test : Expr} {body orelse : List Stmt} (h : Ts C A env test R fun b R₁ => if b = true then Ex C A env body R₁ Ψ else Ex C A env orelse R₁ Ψ) : Ex1 C A env (.If test body orelse pos) R Ψ := fun z s H t =>
  wpAny_If (h.then H t fun z₁ R₁ b s₁ e₁ H₁ t₁ h₁ => by
    cases b with
    | false => exact wpNo t₁ (show wpAny _ _ (execs orelse env) _ _ _ from h₁ z₁ s₁ H₁ t₁) fun _ _ _ p => p.ext e₁
    | true => exact wpNo t₁ (show wpAny _ _ (execs body env) _ _ _ from h₁ z₁ s₁ H₁ t₁) fun _ _ _ p => p.ext e₁)
theorem Ev.ite {test body orelse : Expr} (h : Ts C A env test R fun b R₁ => if b = true then Ev C A env body R₁ Φ else Ev C A env orelse R₁ Φ) : Ev C A env (.IfExp test body orelse pos) R Φ := fun z s H t =>
  wpAny_IfExp (h.then H t fun z₁ R₁ b s₁ e₁ H₁ t₁ h₁ => by
    cases b with
    | false => exact wpNo t₁ (show wpAny _ _ (eval orelse env) _ _ _ from h₁ z₁ s₁ H₁ t₁) fun _ _ _ p => p.ext e₁
    | true => exact wpNo t₁ (show wpAny _ _ (eval body env) _ _ _ from h₁ z₁ s₁ H₁ t₁) fun _ _ _ p => p.ext e₁)
theorem Ex1.ret {e : Expr} (h : Ev C A env e R fun v R₁ => Ψ (.ret v) R₁) : Ex1 C A env (.Return (some e) pos) R Ψ := fun z s H t =>
  wpAny_Return_some (h.then H t fun z₁ R₁ v u s₁ e₁ H₁ t₁ d₁ h₁ => ⟨z₁, R₁, _, e₁, H₁, .ret d₁, h₁⟩)
theorem Ex1.cont (h : Ψ .cont R) : Ex1 C A env (.Continue pos) R Ψ := fun z s H t => wpAny_Continue ⟨z, R, _, Ext.refl _, H, .cont, h⟩
theorem Ex1.brk (h : Ψ .brk R) : Ex1 C A env (.Break pos) R Ψ := fun z s H t => wpAny_Break ⟨z, R, _, Ext.refl _, H, .brk, h⟩
theorem Ex1.assert {test : Expr} {msg : Option Expr} (h : Ts C A env test R fun b R₁ => b = true ∧ Ψ .next R₁) : Ex1 C A env (.Assert test msg pos) R Ψ := fun z s H t =>
  wpAny_Assert_holds (h.then H t fun z₁ R₁ b s₁ e₁ H₁ t₁ h₁ => ⟨h₁.1, z₁, R₁, _, e₁, H₁, .next, h₁.2⟩)
theorem Ex1.expr {e : Expr} (h : Ev C A env e R fun v R₁ => v = .none ∧ Ψ .next R₁) (hi : interactive env = false := by rfl) (hs : swapsWith e Option.none pos.line env = pure false := by rfl) : Ex1 C A env (.Expr e pos) R Ψ := fun z s H t =>
  wpAny_Expr (h.then H t fun z₁ R₁ v u s₁ e₁ H₁ t₁ d₁ h₁ => by
    obtain ⟨rfl, h₁⟩ := h₁
    obtain rfl := d₁.noneI
    exact ⟨z₁, R₁, _, e₁, H₁, .next, h₁⟩) hi hs
noncomputable def Turn (I : Led → Prop) (Ψ : Fl → Led → Prop) : Fl → Led → Prop
  | .next, R => I R
  | .cont, R => I R
  | .brk, R => Ψ .next R
  | .ret v, R => Ψ (.ret v) R
theorem Ex1.whil {test : Expr} {body orelse : List Stmt} (I : Nat → Led → Prop) {n₀ : Nat} (h₀ : I n₀ R)
    (turn : ∀ n R, I n R → Ts C A env test R fun b R₁ => if b = true then Ex C A env body R₁ (Turn (fun R₂ => ∃ m, m < n ∧ I m R₂) Ψ) else Ex C A env orelse R₁ Ψ) : Ex1 C A env (.While test body orelse pos) R Ψ := fun z s H t => by
  refine wpAny_While (codeAny_whileLoop (fun n s' => ∃ z' R', Ext z z' ∧ Rel C z' R' s' ∧ 0 < s'.toks ∧ I n R') (fun n s' ⟨z', R', e', H', t', hI⟩ => ?_) n₀ ⟨z, R, Ext.refl _, H, t, h₀⟩)
  refine wpNo t' ((turn n R' hI).then H' t' fun z₁ R₁ b s₁ e₁ H₁ t₁ h₁ => ?_) fun b s₁ _ (p : if b = true then wpAny C.M A (execs body env) _ _ s₁ else wpAny C.M A (execs orelse env) _ _ s₁) => p
  cases b with
  | true =>
    simp only [if_true]
    refine wpNo t₁ (show wpAny _ _ (execs body env) _ _ _ from h₁ z₁ s₁ H₁ t₁) fun f s₂ t₂ ⟨z₂, R₂, g, e₂, H₂, d₂, h₂⟩ => ?_
    cases d₂ with
    | next => obtain ⟨m, hm, hI⟩ := h₂; exact ⟨m, hm, z₂, R₂, (e'.trans e₁).trans e₂, H₂, t₂, hI⟩
    | cont => obtain ⟨m, hm, hI⟩ := h₂; exact ⟨m, hm, z₂, R₂, (e'.trans e₁).trans e₂, H₂, t₂, hI⟩
    | brk => exact ⟨z₂, R₂, _, (e'.trans e₁).trans e₂, H₂, .next, h₂⟩
    | ret d => exact ⟨z₂, R₂, _, (e'.trans e₁).trans e₂, H₂, .ret d, h₂⟩
  | false =>
    simp only [Bool.false_eq_true, if_false]
    refine wpNo t₁ (show wpAny _ _ (execs orelse env) _ _ _ from h₁ z₁ s₁ H₁ t₁) fun f s₂ t₂ p => ?_
    exact p.ext (e'.trans e₁)
end
section
variable {C : Cx} {A : Around} {env : Env} {R : Led} {mg mb : Str → Option Value} {Φ : V → Led → Prop} {Ψ : Fl → Led → Prop} {k : Nat} {pos : Pos}
noncomputable def EvL (C : Cx) (A : Around) (env : Env) (es : List Expr) (R : Led) (Φ : List V → Led → Prop) : Prop :=
  ∀ pos z s, Rel C z R s → 0 < s.toks → wpAny C.M A (spliced (backTo pos (starEach es env))) (fun us s' => ∃ z' R' vs, Ext z z' ∧ Rel C z' R' s' ∧ DenL z' us vs ∧ us.length = es.length ∧ Φ vs R') NoE s
theorem EvL.nil {Φ : List V → Led → Prop} (h : Φ [] R) : EvL C A env [] R Φ := fun pos z s H t => args_nil ⟨z, R, [], Ext.refl _, H, .nil, rfl, h⟩
theorem EvL.cons {e : Expr} {es : List Expr} {Φ : List V → Led → Prop} (h : Ev C A env e R fun v R₁ => EvL C A env es R₁ fun vs R₂ => Φ (v :: vs) R₂)
    (he : starEach (e :: es) env = (false, eval e env) :: starEach es env := by rfl) : EvL C A env (e :: es) R Φ := fun pos z s H t =>
  args_cons (h.then H t fun z₁ R₁ v u s₁ e₁ H₁ t₁ d₁ h₁ => wpNo t₁ (h₁ pos z₁ s₁ H₁ t₁) fun us s₂ _ ⟨z₂, R₂, vs, e₂, H₂, d₂, hl, p⟩ =>
    ⟨z₂, R₂, v :: vs, e₁.trans e₂, H₂, .cons (d₁.mono e₂) d₂, by simp [hl], p⟩) he
theorem Rel.pushT {z : Fz} {s : Shared} {us : List Value} {vs : List V} (H : Rel C z R s) (d : DenL z us vs) : ∃ z', Ext z z' ∧ Rel C z' R { s with heap := s.heap.push { cls := .type "tuple", data := .seq us.toArray } } ∧ Den z' (.ref s.heap.objs.size) (.tup vs) :=
  ⟨_, zput_ext H.fresh, H.push _, .tup zput_self rfl rfl (by simpa using d.mono (zput_ext H.fresh))⟩
theorem Rel.pushL {z : Fz} {s : Shared} {us : List Value} {vs : List V} (H : Rel C z R s) (d : DenL z us vs) : ∃ z', Ext z z' ∧ Rel C z' R { s with heap := s.heap.push { cls := .type "list", data := .seq us.toArray } } ∧ Den z' (.ref s.heap.objs.size) (.lst vs) :=
  ⟨_, zput_ext H.fresh, H.push _, .lst zput_self rfl rfl (by simpa using d.mono (zput_ext H.fresh))⟩
theorem Rel.pushM {z : Fz} {s : Shared} {us : List Value} {vs : List V} (H : Rel C z R s) (d : DenL z us vs) : Rel C z ((s.heap.objs.size, .list vs) :: R) { s with heap := s.heap.push { cls := .type "list", data := .seq us.toArray } } :=
  H.pushR ⟨_, _, Heap.get?_push_size _ rfl, by simpa using d⟩
theorem Ev.tuple {es : List Expr} (h : EvL C A env es R fun vs R₁ => Φ (.tup vs) R₁) (hes : es.length ≤ 1000 := by decide) : Ev C A env (.Tuple es k pos) R Φ := fun z s H t =>
  Tuple_ (wpNo t (h pos z s H t) fun us s₁ t₁ ⟨z₁, R₁, vs, e₁, H₁, d₁, hl, p⟩ => by
    obtain ⟨z₂, e₂, H₂, d₂⟩ := H₁.pushT d₁
    exact wpAny_newObj_type ⟨z₂, R₁, _, e₁.trans e₂, H₂, d₂, p⟩ (by show us.toArray.size ≤ sizeLine; rw [List.size_toArray, hl, sizeLine_eq]; lia))
theorem Ev.list {es : List Expr} (h : EvL C A env es R fun vs R₁ => Φ (.lst vs) R₁) (hes : es.length ≤ 1000 := by decide) : Ev C A env (.List es pos) R Φ := fun z s H t =>
  List_ (wpNo t (h pos z s H t) fun us s₁ t₁ ⟨z₁, R₁, vs, e₁, H₁, d₁, hl, p⟩ => by
    obtain ⟨z₂, e₂, H₂, d₂⟩ := H₁.pushL d₁
    exact wpAny_newObj_type ⟨z₂, R₁, _, e₁.trans e₂, H₂, d₂, p⟩ (by show us.toArray.size ≤ sizeLine; rw [List.size_toArray, hl, sizeLine_eq]; lia))
theorem Ev.listM {es : List Expr} (h : EvL C A env es R fun vs R₁ => ∀ a, Φ (.ref a) ((a, .list vs) :: R₁)) (hes : es.length ≤ 1000 := by decide) : Ev C A env (.List es pos) R Φ := fun z s H t =>
  List_ (wpNo t (h pos z s H t) fun us s₁ t₁ ⟨z₁, R₁, vs, e₁, H₁, d₁, hl, p⟩ =>
    wpAny_newObj_type ⟨z₁, _, _, e₁, H₁.pushM d₁, .ref _, p _⟩ (by show us.toArray.size ≤ sizeLine; rw [List.size_toArray, hl, sizeLine_eq]; lia))
noncomputable def Kpr (C : Cx) (R : Led) (f : V) : Prop := ∀ z s u, Rel C z R s → Den z u f → ∃ k, (k = Keeper.frame ∨ k = Keeper.machine ∨ k = Keeper.boundFrame) ∧ Looks C.M s.heap (keeperOf u) k
theorem Kpr.bi {id : String} : Kpr C R (.bi id) := fun z s u H d => by obtain rfl := d.biI; exact ⟨.machine, .inr (.inl rfl), .now⟩
theorem Kpr.ty {id : String} : Kpr C R (.ty id) := fun z s u H d => by obtain rfl := d.tyI; exact ⟨.machine, .inr (.inl rfl), .now⟩
theorem Kpr.fn {a : Addr} {o : Obj} {fd : FuncData} (ho : C.B.get? a = some o) (hd : o.data = .func fd) : Kpr C R (.ref a) := fun z s u H d => by
  obtain rfl := d.refI
  exact ⟨.frame, .inl rfl, (Looks.ld (part := Option.none) (H.keepB _ _ ho)).andThen (by rw [hd]; exact .now)⟩
theorem Kpr.cls {K : Frag} {a : Addr} (X : K.In C.B) (hk : keepIn K (.ref a) = true) : Kpr C R (.ref a) := fun z s u H d => by
  obtain rfl := d.refI
  exact keeps_K hk _ (X.keeps H.keepB)
noncomputable def plainArgs (es : List Expr) : Bool := es.all fun | .Starred .. => false | _ => true
theorem starEach_plain : ∀ {es : List Expr}, plainArgs es = true → (starEach es env).any (·.1) = false
  | [], _ => rfl
  | e :: es, h => by
    have h2 : plainArgs es = true := by
      unfold plainArgs at h ⊢
      simp only [List.all_cons, Bool.and_eq_true] at h
      exact h.2
    have ih := starEach_plain (es := es) h2
    cases e <;> first | (simp [plainArgs] at h; done) | (show (false || (starEach es env).any (·.1)) = false; rw [ih]; rfl)
theorem backTo_plain {es : List Expr} (h : plainArgs es = true) : (backTo pos (starEach es env)).any (·.1) = false := by
  have := starEach_plain (env := env) h
  unfold backTo
  rw [List.any_map]
  exact this
theorem starEach_cons {e : Expr} {es : List Expr} (h : plainArgs (e :: es) = true) : starEach (e :: es) env = (false, eval e env) :: starEach es env := by
  cases e <;> first | (simp [plainArgs] at h; done) | rfl
theorem evalArgs_of {f : Value} {es : List Expr} {M : Model} {E : Value → Shared → Prop} {s : Shared} {Q : Args → Shared → Prop} (hp : plainArgs es = true) (h : wpAny M A (spliced (backTo pos (starEach es env))) (fun us s' => Q ⟨us, []⟩ s') E s) :
    wpAny M A (evalArgs f true (backTo pos (starEach es env)) []) Q E s := by
  cases es with
  | nil =>
    unfold evalArgs
    show wpAny M A (spliced [] >>= _) Q E s
    refine wpAny_bind (wpAny_mono (show wpAny M A (spliced []) _ E s from h) (fun us s' q => wpAny_bind (wpAny_pure ?_)) fun _ _ x => x)
    refine wpAny_holding ?_
    exact wpAny_bind (wpAny_pure (wpAny_bind (wpAny_pure (wpAny_pure q))))
  | cons e es =>
    rw [starEach_cons hp] at h ⊢
    exact evalArgs_plain h
theorem Ev.callN {x : Str} {np : Pos} {args : List Expr} (h : Ev C A env (.Name x np) R fun f R₁ => EvL C A env args R₁ fun vs R₂ => Kpr C R₂ f ∧ Cl C A f vs R₂ Φ) (hp : plainArgs args = true := by rfl) :
    Ev C A env (.Call (.Name x np) args [] pos) R Φ := fun z s H t =>
  wpAny_Call_ofName (h.then H t fun z₁ R₁ f u s₁ e₁ H₁ t₁ d₁ h₁ => by
    refine callWith_of (P := fun h => ∃ k, (k = Keeper.frame ∨ k = Keeper.machine ∨ k = Keeper.boundFrame) ∧ Looks C.M h (keeperOf u) k) ?_ (fun _ p => p) (evalArgs_of hp (wpNo t₁ (h₁ pos z₁ s₁ H₁ t₁) fun us s₂ t₂ ⟨z₂, R₂, vs, e₂, H₂, d₂, hl, hk, p⟩ => ⟨hk _ _ _ H₂ (d₁.mono e₂), ?_⟩))
    · rw [backTo_plain hp]; rfl
    · exact p.then H₂ t₂ (d₁.mono e₂) d₂ fun z₃ R₃ v u' s₃ e₃ H₃ t₃ d₃ p₃ => ⟨z₃, R₃, v, (e₁.trans e₂).trans e₃, H₃, d₃, p₃⟩)
structure MethOf (T : String) (name : Str) (id : String) : Prop where
  pa : PlainAttrs T
  slot : Slot T name id
  ty : typeOf (.builtin id) = pure (.type "method_descriptor")
noncomputable def TyIs (C : Cx) (R : Led) (T : String) (v : V) : Prop := ∀ z s u, Rel C z R s → Den z u v → s.TypeIs u T ∧ ∀ a, u = .ref a → ∃ ob, s.heap.get? a = some ob ∧ ob.dict = none
theorem TyIs.str {x : Str} : TyIs C R "str" (.str x) := fun z s u H d => by obtain ⟨_, rfl⟩ := d.strI; exact ⟨typeIs_str _ _ _, fun a e => nomatch e⟩
theorem TyIs.listM {a : Addr} {vs : List V} (h : (a, .list vs) ∈ R) : TyIs C R "list" (.ref a) := fun z s u H d => by
  obtain rfl := d.refI
  obtain ⟨⟨it, n, h1, _⟩, _⟩ := H.res _ h
  exact ⟨⟨_, h1, rfl⟩, fun b e => by cases e; exact ⟨_, h1, rfl⟩⟩
theorem Ev.meth {o : Expr} {name : Str} {apos : Pos} {args : List Expr} {T id : String} (m : MethOf T name id)
    (h : Ev C A env o R fun ov R₁ => TyIs C R₁ T ov ∧ EvL C A env args R₁ fun vs R₂ => Cl C A (.bi id) (ov :: vs) R₂ Φ)
    (hbase : attributeBase o name env (eval o env) = eval o env := by rfl) (hp : plainArgs args = true := by rfl)
    (hfew : ((backTo pos (starEach args env)).all (fun x => !x.1) && (backToKw pos (keywordEach [] env)).all (fun x => x.1.isSome) && decide (args.length + ([] : List Keyword).length + (if ([] : List Keyword).isEmpty then 0 else 1) < 30)) = true := by rfl)
    (hline : (apos.endLine == pos.line) = true := by rfl) : Ev C A env (.Call (.Attribute o name apos) args [] pos) R Φ := fun z s H t =>
  wpAny_Call_method hbase hfew hline m.pa m.slot m.ty (h.then H t fun z₁ R₁ ov u s₁ e₁ H₁ t₁ d₁ ⟨ht, h₁⟩ => by
    obtain ⟨a1, a2⟩ := ht _ _ _ H₁ d₁
    refine ⟨a1, a2, callWith_builtin (backTo_plain hp) (evalArgs_of hp (wpNo t₁ (h₁ pos z₁ s₁ H₁ t₁) fun us s₂ t₂ ⟨z₂, R₂, vs, e₂, H₂, d₂, hl, p⟩ => ?_))⟩
    exact p.then H₂ t₂ (.bi id) (.cons (d₁.mono e₂) d₂) fun z₃ R₃ v u' s₃ e₃ H₃ t₃ d₃ p₃ => ⟨z₃, R₃, v, (e₁.trans e₂).trans e₃, H₃, d₃, p₃⟩)
end
section
variable {C : Cx} {A : Around} {env : Env} {R : Led} {mg mb : Str → Option Value} {Φ : V → Led → Prop} {Ψ : Fl → Led → Prop} {k : Nat} {pos : Pos}
theorem Op2.addI {a b : Int} (h : Φ (.int (a + b)) R) : Op2 C A .Add (.int a) (.int b) R Φ := fun z s u v H t d e => by
  obtain ⟨_, rfl⟩ := d.intI; obtain ⟨_, rfl⟩ := e.intI; exact add_int (.mk (H.toks _) (.int _ _) h)
theorem Op2.subI {a b : Int} (h : Φ (.int (a - b)) R) : Op2 C A .Sub (.int a) (.int b) R Φ := fun z s u v H t d e => by
  obtain ⟨_, rfl⟩ := d.intI; obtain ⟨_, rfl⟩ := e.intI; exact sub_int (.mk (H.toks _) (.int _ _) h)
theorem Op2.modI {a b : Int} (hb : b ≠ 0) (h : Φ (.int (a.fmod b)) R) : Op2 C A .Mod (.int a) (.int b) R Φ := fun z s u v H t d e => by
  obtain ⟨_, rfl⟩ := d.intI; obtain ⟨_, rfl⟩ := e.intI; exact mod_int' hb (.mk (H.toks _) (.int _ _) h)
theorem Op2.addS {x y : Str} (hl : x.length + y.length ≤ 16777216) (h : Φ (.str (x ++ y)) R) : Op2 C A .Add (.str x) (.str y) R Φ := fun z s u v H t d e => by
  obtain ⟨_, rfl⟩ := d.strI; obtain ⟨_, rfl⟩ := e.strI; exact SBL.add (fun _ _ _ => .mk (H.toks _) (.str _ _) h) (by rw [sizeLine_eq]; exact hl)
theorem mulOk_of {x : Str} {n : Int} (h0 : 0 ≤ n) (h1 : n ≤ 10000) (h2 : x.length ≤ 1000) : MulOk x n := by
  refine ⟨?_, fun _ _ => ?_, fun _ _ => ?_⟩
  · simp only [Bool.or_eq_false_iff, decide_eq_false_iff_not]; constructor <;> lia
  · have h3 : (1 : Int) ≤ n := by lia
    have : (x.length : Int) ≤ (2 ^ 63 - 1) / n := by
      rw [Int.le_ediv_iff_mul_le (by lia)]
      have : (x.length : Int) * n ≤ 1000 * 10000 := Int.mul_le_mul (by lia) h1 h0 (by lia)
      lia
    lia
  · unfold Builtin.Str.tooLong
    have : x.length * n.toNat ≤ 1000 * 10000 := Nat.mul_le_mul h2 (by lia)
    simp only [decide_eq_false_iff_not]
    try rw [sizeLine_eq]
    lia
theorem Op2.mulS {x : Str} {n : Int} (h0 : 0 ≤ n) (h1 : n ≤ 10000) (h2 : x.length ≤ 1000) (h : Φ (.str (Txt.mul x n)) R) : Op2 C A .Mult (.str x) (.int n) R Φ := fun z s u v H t d e => by
  obtain ⟨_, rfl⟩ := d.strI; obtain ⟨_, rfl⟩ := e.intI; exact SB.mul (mulOk_of h0 h1 h2) fun _ _ => .mk (H.toks _) (.str _ _) h
inductive LstOf (R : Led) : V → List V → Prop where
  | lst {vs : List V} : LstOf R (.lst vs) vs
  | ref {a : Addr} {vs : List V} : (a, .list vs) ∈ R → LstOf R (.ref a) vs
theorem LstOf.is {z : Fz} {s : Shared} {u : Value} {v : V} {vs : List V} (l : LstOf R v vs) (H : Rel C z R s) (d : Den z u v) : ∃ a items, u = .ref a ∧ s.heap.IsList a items ∧ DenL z items.toList vs := by
  cases l with
  | lst => exact d.lstIs H
  | ref h =>
    obtain rfl := d.refI
    obtain ⟨it, a, b⟩ := H.list h
    exact ⟨_, it, rfl, a, b⟩
section
variable {Φ : Bool → Led → Prop}
theorem bp {z : Fz} {s : Shared} {b : Bool} (H : Rel C z R s) (h : Φ b R) : ∃ b', Value.bool b = .bool b' ∧ BPost C z Φ b' s := ⟨b, rfl, z, R, Ext.refl _, H, h⟩
theorem Cmp.eqI {a b : Int} (h : Φ (a == b) R) : Cmp C A .Eq (.int a) (.int b) R Φ := fun z s u v H t d e => by obtain ⟨_, rfl⟩ := d.intI; obtain ⟨_, rfl⟩ := e.intI; exact eq_int (bp H h)
theorem Cmp.neI {a b : Int} (h : Φ (a != b) R) : Cmp C A .NotEq (.int a) (.int b) R Φ := fun z s u v H t d e => by obtain ⟨_, rfl⟩ := d.intI; obtain ⟨_, rfl⟩ := e.intI; exact ne_int (bp H h)
theorem Cmp.ltI {a b : Int} (h : Φ (decide (a < b)) R) : Cmp C A .Lt (.int a) (.int b) R Φ := fun z s u v H t d e => by obtain ⟨_, rfl⟩ := d.intI; obtain ⟨_, rfl⟩ := e.intI; exact lt_int (bp H h)
theorem Cmp.gtI {a b : Int} (h : Φ (decide (a > b)) R) : Cmp C A .Gt (.int a) (.int b) R Φ := fun z s u v H t d e => by obtain ⟨_, rfl⟩ := d.intI; obtain ⟨_, rfl⟩ := e.intI; exact gt_int (bp H h)
theorem Cmp.geI {a b : Int} (h : Φ (decide (a ≥ b)) R) : Cmp C A .GtE (.int a) (.int b) R Φ := fun z s u v H t d e => by obtain ⟨_, rfl⟩ := d.intI; obtain ⟨_, rfl⟩ := e.intI; exact ge_int (bp H h)
theorem Cmp.eqS {x y : Str} (h : Φ (x == y) R) : Cmp C A .Eq (.str x) (.str y) R Φ := fun z s u v H t d e => by obtain ⟨_, rfl⟩ := d.strI; obtain ⟨_, rfl⟩ := e.strI; exact eq_str (bp H h)
theorem Cmp.neS {x y : Str} (h : Φ (x != y) R) : Cmp C A .NotEq (.str x) (.str y) R Φ := fun z s u v H t d e => by obtain ⟨_, rfl⟩ := d.strI; obtain ⟨_, rfl⟩ := e.strI; exact ne_str (bp H h)
theorem Cmp.inS {x y : Str} (h : Φ (!(Builtin.Str.occurrences x y 0 x.length 1).isEmpty) R) : Cmp C A .In (.str y) (.str x) R Φ := fun z s u v H t d e => by obtain ⟨_, rfl⟩ := d.strI; obtain ⟨_, rfl⟩ := e.strI; exact in_str (bp H h)
end
theorem Tr.int {i : Int} {Φ : Bool → Led → Prop} (h : Φ (i != 0) R) : Tr C A (.int i) R Φ := fun z s u H t d => by
  obtain ⟨_, rfl⟩ := d.intI; exact truthy_int ⟨z, R, Ext.refl _, H, h⟩
theorem Ev.sub {value slice : Expr} (h : Ev C A env value R fun o R₁ => Ev C A env slice R₁ fun i R₂ => ∀ z s u v, Rel C z R₂ s → 0 < s.toks → Den z u o → Den z v i → wpAny C.M A (subscriptTail value slice u v) (VPost C z Φ) NoE s) : Ev C A env (.Subscript value slice pos) R Φ := fun z s H t =>
  Subscript_ (h.then H t fun z₁ R₁ a u s₁ e₁ H₁ t₁ d₁ h₁ => h₁.then H₁ t₁ fun z₂ R₂ b v s₂ e₂ H₂ t₂ d₂ h₂ =>
    wpNo t₂ (h₂ z₂ s₂ u v H₂ t₂ (d₁.mono e₂) d₂) fun _ _ _ p => p.ext (e₁.trans e₂))
noncomputable def Itm (C : Cx) (A : Around) (o i : V) (R : Led) (Φ : V → Led → Prop) : Prop := ∀ z s u v, Rel C z R s → 0 < s.toks → Den z u o → Den z v i → (∃ T id, s.TypeIs u T ∧ typeLookup (.type T) "__getitem__" = pure (some (.builtin id))) ∧ wpAny C.M A (getItem u v) (VPost C z Φ) NoE s
theorem Ev.item {value slice : Expr} (h : Ev C A env value R fun o R₁ => Ev C A env slice R₁ fun i R₂ => Itm C A o i R₂ Φ)
    (hs : ∀ o i, subscripted slice false o i = operate [o, i] (getItem o i) := by intro _ _; with_unfolding_all rfl) : Ev C A env (.Subscript value slice pos) R Φ :=
  Ev.sub (h.mono fun o R₁ h₁ => h₁.mono fun i R₂ h₂ z s u v H t d e => by
    obtain ⟨⟨T, id, h3, h4⟩, h5⟩ := h₂ z s u v H t d e
    exact tail_any h3 h4 h5 (hs u v))
theorem Itm.str {x : Str} {i : Int} (h0 : -(x.length : Int) ≤ i) (h1 : i < x.length) (hx : x.length ≤ 16777216) (h : Φ (.str (Txt.item x i)) R) : Itm C A (.str x) (.int i) R Φ := fun z s u v H t d e => by
  obtain ⟨_, rfl⟩ := d.strI; obtain ⟨_, rfl⟩ := e.intI
  obtain ⟨T, id, a, b, c⟩ := SB.item (prog := C.prog) (w := C.w) (A := A) (E := NoE) (s := s) (x := x) (t := _) (u := _) (Q := VPost C z Φ) (fitsSsize_of (N := 9223372036854775808) (by lia) (by lia) (Int.le_refl _)) (charAt_isSome h0 h1) (.mk (H.toks _) (.str _ _) h)
  exact ⟨⟨T, id, b, a⟩, c⟩
theorem Itm.lst {v : V} {vs : List V} {i : Int} {w : V} (l : LstOf R v vs) (h0 : 0 ≤ i) (h1 : vs[i.toNat]? = some w) (h : Φ w R) (hi : i < 2 ^ 63) : Itm C A v (.int i) R Φ := fun z s u v' H t d e => by
  obtain ⟨_, rfl⟩ := e.intI
  obtain ⟨a, its, rfl, h2, d2⟩ := l.is H d
  obtain ⟨x, h3, d3⟩ := d2.get h1
  exact ⟨⟨"list", _, h2.typeIs, slot_list_getitem.lookup⟩, wpAny_getItem_list h2 h0 hi (by simpa using h3) (.mk H d3 h)⟩
theorem Itm.lstN {v : V} {vs : List V} {i : Int} {w : V} (l : LstOf R v vs) (h0 : i < 0) (h2 : -(vs.length : Int) ≤ i) (h1 : vs[(i + vs.length).toNat]? = some w) (h : Φ w R) (hi : -2 ^ 63 ≤ i) : Itm C A v (.int i) R Φ := fun z s u v' H t d e => by
  obtain ⟨_, rfl⟩ := e.intI
  obtain ⟨a, its, rfl, h3, d2⟩ := l.is H d
  obtain ⟨x, h4, d3⟩ := d2.get h1
  have hz : its.size = vs.length := by rw [← Array.length_toList]; exact d2.length
  exact ⟨⟨"list", _, h3.typeIs, slot_list_getitem.lookup⟩, wpAny_getItem_list_neg h3 h0 (by rw [hz]; exact h2) hi (by rw [hz]; simpa using h4) (.mk H d3 h)⟩
theorem Itm.tup {vs : List V} {i : Int} {w : V} {j : Nat} (hj : seqIndex? i vs.length = some j) (h1 : vs[j]? = some w) (h : Φ w R) (hlo : -(2 ^ 63) ≤ i) (hi : i < 2 ^ 63) : Itm C A (.tup vs) (.int i) R Φ := fun z s u v' H t d e => by
  obtain ⟨_, rfl⟩ := e.intI
  obtain ⟨a, its, rfl, h3, d2⟩ := d.tupIs H
  obtain ⟨x, h4, d3⟩ := d2.get h1
  have hz : its.size = vs.length := by rw [← Array.length_toList]; exact d2.length
  exact ⟨⟨"tuple", _, h3.typeIs, slot_tuple_getitem.lookup⟩, getItem_tuple h3 hlo hi (by rw [hz]; exact hj) (by simpa using h4) (.mk H d3 h)⟩
noncomputable def EvO (C : Cx) (A : Around) (env : Env) : Option Expr → Led → (Option Int → Led → Prop) → Prop
  | .none, R, Φ => Φ .none R
  | some e, R, Φ => Ev C A env e R fun v R₁ => ∃ i, v = .int i ∧ Φ (some i) R₁
noncomputable def OPart (u : Value) (i : Option Int) : Prop := match i with
  | .none => u = .none
  | some i => ∃ t, u = .int i t
theorem EvO.then {e : Option Expr} {Φ : Option Int → Led → Prop} {Q : Value → Shared → Prop} {z : Fz} {s : Shared} (h : EvO C A env e R Φ) (H : Rel C z R s) (t : 0 < s.toks)
    (k : ∀ z' R' v u s', Ext z z' → Rel C z' R' s' → 0 < s'.toks → OPart u v → Φ v R' → Q u s') : wpAny C.M A (evalPart e env) Q NoE s := by
  cases e with
  | none => exact evalPart_none_step (k z R .none .none s (Ext.refl _) H t rfl h)
  | some e => exact evalPart_some_step (Ev.then h H t fun z' R' v u s' e' H' t' d p => by
      obtain ⟨i, rfl, p⟩ := p
      obtain ⟨_, rfl⟩ := d.intI
      exact k z' R' (some i) _ s' e' H' t' ⟨_, rfl⟩ p)
noncomputable def Sli (C : Cx) (A : Around) (o : V) (l u : Option Int) (R : Led) (Φ : V → Led → Prop) : Prop := ∀ z s v vl vu, Rel C z R s → 0 < s.toks → Den z v o → OPart vl l → OPart vu u →
  (∃ T id, s.TypeIs v T ∧ typeLookup (.type T) "__getitem__" = pure (some (.builtin id))) ∧ wpAny C.M A (getItem v (.ref s.heap.objs.size)) (VPost C z Φ) NoE { s with heap := s.heap.push { cls := .type "slice", data := .fields #[vl, vu, .none] } }
theorem TypeIs.push {s : Shared} {v : Value} {T : String} {o : Obj} (h : s.TypeIs v T) : ({ s with heap := s.heap.push o } : Shared).TypeIs v T := by
  cases v <;> first | exact h | (obtain ⟨o', h1, h2⟩ := h; exact ⟨o', Heap.get?_push_of_some _ h1, h2⟩)
theorem Ev.slice {value : Expr} {l u : Option Expr} {p : Pos} (h : Ev C A env value R fun o R₁ => EvO C A env l R₁ fun l' R₂ => EvO C A env u R₂ fun u' R₃ => Sli C A o l' u' R₃ Φ) :
    Ev C A env (.Subscript value (.Slice l u Option.none p) pos) R Φ := fun z s H t =>
  Subscript_ (h.then H t fun z₁ R₁ a v s₁ e₁ H₁ t₁ d₁ h₁ => wpAny_Slice (EvO.then h₁ H₁ t₁ fun z₂ R₂ l' vl s₂ e₂ H₂ t₂ p₂ h₂ => EvO.then h₂ H₂ t₂ fun z₃ R₃ u' vu s₃ e₃ H₃ t₃ p₃ h₃ =>
    evalPart_none_step (by
      obtain ⟨⟨T, id, h4, h5⟩, h6⟩ := h₃ z₃ s₃ v vl vu H₃ t₃ (d₁.mono (e₂.trans e₃)) p₂ p₃
      exact tail_any (TypeIs.push h4) h5 (wpNo (s := { s₃ with heap := _ }) t₃ h6 fun _ _ _ q => q.ext ((e₁.trans e₂).trans e₃)) (by with_unfolding_all rfl))))
theorem Sli.str {x : Str} {l u : Option Int} (hx : x.length ≤ 16777216) (h : Φ (.str (Txt.slice x l u)) R) : Sli C A (.str x) l u R Φ := fun z s v vl vu H t d pl pu => by
  obtain ⟨tk, rfl⟩ := d.strI
  refine ⟨⟨"str", _, typeIs_str _ _ _, PySem.F.slot_str_getitem.lookup⟩, ?_⟩
  have H' : ∀ k, Rel C z R { s with heap := s.heap.push { cls := .type "slice", data := .fields #[vl, vu, .none] }, toks := k } := fun k => H.grown H.fresh H.notIn fun b o _ e => Heap.get?_push_of_some _ e
  have fin : ∀ (l' u' : Option (Int × Tok)), vl = partValue l' → vu = partValue u' → l = l'.map (·.1) → u = u'.map (·.1) → wpAny C.M A (getItem (.str x tk) (.ref s.heap.objs.size)) (VPost C z Φ) NoE { s with heap := s.heap.push { cls := .type "slice", data := .fields #[vl, vu, .none] } } := by
    intro l' u' h1 h2 h3 h4
    subst h3 h4
    exact wpAny_getItem_str_slice (l := l') (u := u') (st := .none) ⟨_, Heap.get?_push_size _ rfl, rfl, by rw [h1, h2]; rfl⟩ rfl (post_val_or_str ⟨Nat.le_trans (Txt.slice_le x _ _) (by rw [sizeLine_eq]; exact hx), fun t' k => .mk (H' k) (.str _ _) h⟩)
  cases l with
  | none =>
    cases u with
    | none => exact fin .none .none pl pu rfl rfl
    | some j => obtain ⟨tj, hj⟩ := pu; exact fin .none (some (j, tj)) pl hj rfl rfl
  | some i =>
    obtain ⟨ti, hi⟩ := pl
    cases u with
    | none => exact fin (some (i, ti)) .none hi pu rfl rfl
    | some j => obtain ⟨tj, hj⟩ := pu; exact fin (some (i, ti)) (some (j, tj)) hi hj rfl rfl
end
section
variable {C : Cx} {A : Around} {env : Env} {R : Led} {mg mb : Str → Option Value} {Φ : V → Led → Prop} {Ψ : Fl → Led → Prop} {k : Nat} {pos : Pos}
inductive Bnd : List Str → List V → List Str → List (Str × V) → Prop where
  | nil : Bnd [] [] [] []
  | rest {x : Str} {r : List Str} {m : List (Str × V)} : Bnd [] [] r m → Bnd [] [] (x :: r) ((x, .any) :: m)
  | cons {x : Str} {v : V} {ns : List Str} {vs : List V} {r : List Str} {m : List (Str × V)} : Bnd ns vs r m → Bnd (x :: ns) (v :: vs) r ((x, v) :: m)
theorem Bnd.keys {ns r : List Str} {vs : List V} {m : List (Str × V)} (b : Bnd ns vs r m) : m.map (·.1) = ns ++ r ∧ vs.length = ns.length := by
  induction b with
  | nil => exact ⟨rfl, rfl⟩
  | rest _ ih => exact ⟨by simp [ih.1], rfl⟩
  | cons _ ih => exact ⟨by simp [ih.1], by simp [ih.2]⟩
theorem Bnd.mem {z : Fz} {ns r : List Str} {vs : List V} {m : List (Str × V)} (b : Bnd ns vs r m) : ∀ {us : List Value}, DenL z us vs → ∀ p ∈ m, p.2 = .any ∨ ∃ u, (p.1, u) ∈ ns.zip us ∧ Den z u p.2 := by
  induction b with
  | nil => intro us _ p hp; cases hp
  | rest _ ih =>
    intro us d p hp
    rcases List.mem_cons.mp hp with rfl | hp
    · exact .inl rfl
    · cases d; exact ih .nil p hp
  | cons _ ih =>
    intro us d p hp
    cases d with
    | cons d1 d2 =>
      rcases List.mem_cons.mp hp with rfl | hp
      · exact .inr ⟨_, .head _, d1⟩
      · exact (ih d2 p hp).imp id fun ⟨u, a, b⟩ => ⟨u, .tail _ a, b⟩
theorem lookup_of_mem {ps : List (Str × Value)} {x : Str} {u : Value} (hn : (ps.map (·.1)).Nodup) (h : (x, u) ∈ ps) : ps.lookup x = some u := by
  induction ps with
  | nil => cases h
  | cons p r ih =>
    obtain ⟨y, w⟩ := p
    rw [List.lookup_cons]
    rcases List.mem_cons.mp h with e | h
    · cases e; simp
    · have : x ≠ y := fun e => (List.nodup_cons.mp hn).1 (by
        have q := List.mem_map_of_mem (f := (·.1)) h
        dsimp only at q ⊢
        rw [← e]; exact q)
      rw [beq_eq_false_iff_ne.mpr this]
      exact ih (List.nodup_cons.mp hn).2 h
theorem zip_keys : ∀ {ns : List Str} {us : List Value}, us.length = ns.length → (ns.zip us).map (·.1) = ns
  | [], [], _ => rfl
  | _ :: ns, _ :: us, h => by simp [zip_keys (ns := ns) (us := us) (by simpa using h)]
noncomputable def fenv (fd : FuncData) (f L : Addr) : Env :=
  { scope := fd.scope, locals := L, globals := fd.globals, cells := fd.closure, qual := fd.qualname ++ ".<locals>.", func := some f, code := fd.code, frame := some L, builtins := fd.builtins }
noncomputable def Fl.val : Fl → V
  | .ret v => v
  | _ => .none
noncomputable def Back (Φ : V → Led → Prop) : Fl → Led → Prop := fun f R' => ∃ R'', Wk R' R'' ∧ Φ f.val R''
structure FnAt (C : Cx) (f : Addr) (fd : FuncData) (body : List Stmt) (ns : List Str) : Prop where
  at_ : ∃ o, C.B.get? f = some o ∧ o.data = .func fd
  body : fd.body = .stmts body
  code : C.B.CodeRec fd.code fd.qualname
  co : fd.scope.isCoroutine = false
  gen : fd.scope.isGenerator = false
  kind : fd.scope.kind = .function
  bind : ∀ us : List Value, us.length = ns.length → bindArgs fd ⟨us, []⟩ = pure (ns.zip us)
noncomputable def CRes (C : Cx) (z : Fz) (Φ : V → Led → Prop) (r : Result) (s' : Shared) : Prop := match r with
  | .ok (.ret v) => VPost C z Φ v s'
  | .ok _ => False
  | .error e => NoE e s'
noncomputable def ClC (C : Cx) (A : Around) (f : V) (vs : List V) (R : Led) (Φ : V → Led → Prop) : Prop :=
  ∀ z s u us, Rel C z R s → 0 < s.toks → Den z u f → DenL z us vs → codeAny C.M A (.call u ⟨us, []⟩) (CRes C z Φ) s
theorem ClC.cl {f : V} {vs : List V} (h : ClC C A f vs R Φ) : Cl C A f vs R Φ := fun z s u us H t d ds =>
  wpAny_call (codeAny_mono (h z s u us H t d ds) fun r s' p => by
    rcases r with e | (_ | _ | _ | v)
    · exact p
    · exact p
    · exact p
    · exact p
    · exact p)
theorem fn_raw {f : Addr} {fd : FuncData} {body : List Stmt} {ns r : List Str} {vs : List V} {m : List (Str × V)} {z : Fz} {s : Shared} {us : List Value} (G : GX C mg mb) (F : FnAt C f fd body ns) (b : Bnd ns vs r m) (hn : (ns ++ r).Nodup) (hd : A.depth < recursionLimit)
    (hc : ∀ x ∈ fd.scope.names, x.2 ≠ .cell) (hl : ∀ x ∈ ns, fd.scope.names.lookup x = some .local)
    (h : ∀ L, Ex C (A.deeper (fenv fd f L)) (fenv fd f L) body ((L, .ns m) :: R) (Back Φ)) (H : Rel C z R s) (t : 0 < s.toks + (ns.zip us).length) (ds : DenL z us vs) : codeAny C.M A (.call (.ref f) ⟨us, []⟩) (CRes C z Φ) s := by
  obtain ⟨o, ho, hdat⟩ := F.at_
  have hlen : us.length = ns.length := ds.length.trans b.keys.2
  refine codeAny_call_function hd (H.keepB _ _ ho) hdat F.co F.gen F.body (F.code.keeps H.keepB) ?_
  rw [F.bind us hlen]
  refine wpAny_pure (wpAny_newFunctionEnv hc (fun x hx => hl x.1 ?_) (fun h' hN hs => ⟨?_, ?_⟩) F.kind)
  · have := List.mem_map_of_mem (f := (·.1)) hx
    rwa [zip_keys hlen] at this
  · exact G.nolimit.keeps fun b o e => hs.extBut b o (Nat.ne_of_lt (Heap.lt_size (H.keepB _ _ e))) (Heap.get?_push_of_some _ (H.keepB _ _ e))
  · show codeAny _ _ (.func body (fenv fd f s.heap.objs.size)) _ _
    have hk : Heap.ExtBut s.heap.objs.size s.heap h' := fun b o hb e => hs.extBut b o hb (Heap.get?_push_of_some _ e)
    have hnz : ((ns.zip us).map (·.1)).Nodup := by rw [zip_keys hlen]; exact (List.nodup_append.mp hn).1
    have hr : ResAt z h' s.heap.objs.size (.ns m) := ⟨b.keys.1 ▸ hn, _, hN, fun p hp => (b.mem ds p hp).imp id fun ⟨u, a, c⟩ => ⟨u, by
      have := lookup_of_mem (ps := (ns.zip us).reverse) (x := p.1) (u := u) (by rw [List.map_reverse]; exact (List.reverse_perm _).nodup_iff.mpr hnz) (List.mem_reverse.mpr a)
      exact this, c⟩⟩
    have H' := H.more (t := s.toks + (ns.zip us).length) hr H.fresh H.notIn hk
    refine codeAny_func (wpNo t (h _ z _ H' t) fun fl s' t' ⟨z', R', g, e', H'', d', R'', wk, p⟩ => ?_)
    refine ⟨z', R'', g.val, e', H''.wk wk, ?_, p⟩
    cases d' with
    | ret d => exact d
    | next => exact .none
    | brk => exact .none
    | cont => exact .none
theorem ClC.fn {f : Addr} {fd : FuncData} {body : List Stmt} {ns r : List Str} {vs : List V} {m : List (Str × V)} (G : GX C mg mb) (F : FnAt C f fd body ns) (b : Bnd ns vs r m) (hn : (ns ++ r).Nodup) (hd : A.depth < recursionLimit)
    (hc : ∀ x ∈ fd.scope.names, x.2 ≠ .cell) (hl : ∀ x ∈ ns, fd.scope.names.lookup x = some .local)
    (h : ∀ L, Ex C (A.deeper (fenv fd f L)) (fenv fd f L) body ((L, .ns m) :: R) (Back Φ)) : ClC C A (.ref f) vs R Φ := fun z s u us H t d ds => by
  obtain rfl := d.refI
  exact fn_raw G F b hn hd hc hl h H (Nat.lt_of_lt_of_le t (Nat.le_add_right _ _)) ds
theorem letGo_name {x : Str} {p : Pos} {it v : Value} {M : Model} {s : Shared} {E : Value → Shared → Prop} {Q : Unit → Shared → Prop} (h : Q () s) : wpAny M A (letOwnedTupleGo (.Name x p) it v) Q E s := wpAny_pure h
theorem Ex1.forL {target iter : Expr} {body orelse : List Stmt} (I : List V → Led → Prop) (hh : A.handled = none)
    (h : Ev C A env iter R fun v R₁ => ∃ vs, v = .lst vs ∧ I vs R₁)
    (turn : ∀ it o v rest R, I (v :: rest) R → As C A env target v ((it, .obj o) :: R) fun R₁ => Ex C A env body R₁ (Turn (fun R₂ => ∃ R₃, Wk R₂ ((it, .obj o) :: R₃) ∧ I rest R₃) fun f R₂ => ∃ R₃, Wk R₂ R₃ ∧ Ψ f R₃))
    (fin : ∀ R, I [] R → Ex C A env orelse R Ψ)
    (hs : ∀ x, foldedSetIterable iter env x = pure x := by intro _; rfl) (ht : (∃ x p, target = .Name x p) ∨ ∃ es k p, target = .Tuple es k p := by first | exact .inl ⟨_, _, rfl⟩ | exact .inr ⟨_, _, _, rfl⟩) : Ex1 C A env (.For target iter body orelse pos) R Ψ := fun z s H t => by
  refine wpAny_For (h.then H t fun z₁ R₁ v u s₁ e₁ H₁ t₁ d₁ h₁ => ?_) hs
  obtain ⟨vs, rfl, hI⟩ := h₁
  cases d₁ with
  | @lst a ol items n _ hz hc hdat ds =>
    have hl : s₁.heap.IsList a items := ⟨ol, H₁.kept _ _ hz, hc, n, hdat⟩
    refine wpAny_pyIter_list hl ?_
    have Hp : Rel C z₁ ((s₁.heap.objs.size, .obj { cls := .type "list_iterator", data := .fields #[.ref a, .int 0 0] }) :: R₁) { s₁ with heap := s₁.heap.push { cls := .type "list_iterator", data := .fields #[.ref a, .int 0 0] } } := H₁.pushR (r := .obj _) (Heap.get?_push_size _ rfl)
    refine codeAny_forLoop_any (fun n s' => ∃ z' R' i o, n = vs.length - i ∧ i ≤ vs.length ∧ Ext z₁ z' ∧ 0 < s'.toks ∧ Rel C z' ((s₁.heap.objs.size, .obj o) :: R') s' ∧ o.cls = .type "list_iterator" ∧ o.data = .fields #[.ref a, .int (i : Nat) 0] ∧ I (vs.drop i) R') ?_ (vs.length) ⟨z₁, R₁, 0, _, rfl, Nat.zero_le _, Ext.refl _, t₁, Hp, rfl, rfl, by simpa using hI⟩
    rintro n s' ⟨z', R', i, o, hn, hi, e', t', H', oc, od, hI'⟩
    have hit : s'.heap.IsListIter s₁.heap.objs.size a i := ⟨o, (H'.res _ (.head _)).1, oc, od⟩
    have hl' : s'.heap.IsList a items := ⟨ol, H'.kept _ _ (e' _ _ hz), hc, _, hdat⟩
    have ds' := ds.mono e'
    have hsz : items.size = vs.length := by rw [← Array.length_toList]; exact ds.length
    have hne : s₁.heap.objs.size ∉ R'.map (·.1) := (List.nodup_cons.mp H'.nodup).1
    have hz0 : z' s₁.heap.objs.size = none := (H'.res _ (.head _)).2
    by_cases hlt : i < vs.length
    · obtain ⟨x, hx, dx⟩ := ds'.get (i := i) (y := vs[i]) (by simp [hlt])
      refine wpAny_pyNext_list_item hit hl' (x := x) (by simpa using hx) fun h₂ hit₂ hs₂ => ?_
      obtain ⟨o₂, ho₂, oc₂, od₂⟩ := id hit₂
      have H₂ : Rel C z' ((s₁.heap.objs.size, .obj o₂) :: R') { s' with heap := h₂ } := H'.upd (t := s'.toks) .here hs₂ ho₂
      have hdr : vs.drop i = vs[i] :: vs.drop (i + 1) := List.drop_eq_getElem_cons hlt
      rw [hdr] at hI'
      have T := turn s₁.heap.objs.size o₂ _ _ _ hI'
      have main : wpAny C.M A (PySem.assign target env x) (fun _ s₂ => wpAny C.M A (execs body env) (fun f s₃ => match f with
          | .next | .cont => ∃ m, m < n ∧ (∃ z' R' i o, m = vs.length - i ∧ i ≤ vs.length ∧ Ext z₁ z' ∧ 0 < s₃.toks ∧ Rel C z' ((s₁.heap.objs.size, .obj o) :: R') s₃ ∧ o.cls = .type "list_iterator" ∧ o.data = .fields #[.ref a, .int (i : Nat) 0] ∧ I (vs.drop i) R')
          | .brk => FPost C z Ψ .next s₃
          | .ret v => FPost C z Ψ (.ret v) s₃) NoE s₂) NoE { s' with heap := h₂ } := by
        refine T.then H₂ t' dx fun z₃ R₃ s₃ e₃ H₃ t₃ h₃ => h₃.then H₃ t₃ fun z₄ R₄ g f s₄ e₄ H₄ t₄ d₄ h₄ => ?_
        have eall : Ext z₁ z₄ := (e'.trans e₃).trans e₄
        cases d₄ with
        | next => obtain ⟨R₅, wk, hI₅⟩ := h₄; exact ⟨vs.length - (i + 1), by lia, z₄, R₅, i + 1, o₂, rfl, hlt, eall, t₄, H₄.wk wk, oc₂, od₂, hI₅⟩
        | cont => obtain ⟨R₅, wk, hI₅⟩ := h₄; exact ⟨vs.length - (i + 1), by lia, z₄, R₅, i + 1, o₂, rfl, hlt, eall, t₄, H₄.wk wk, oc₂, od₂, hI₅⟩
        | brk => obtain ⟨R₅, wk, p⟩ := h₄; exact ⟨z₄, R₅, _, e₁.trans eall, H₄.wk wk, .next, p⟩
        | ret d => obtain ⟨R₅, wk, p⟩ := h₄; exact ⟨z₄, R₅, _, e₁.trans eall, H₄.wk wk, .ret d, p⟩
      have main2 : wpAny C.M A (PySem.assign target env x) (fun _ s₂ => wpAny C.M A (execs body env) (fun f s₃ => match f with
          | .next | .cont => ∃ m, m < n ∧ (∃ z' R' i o, m = vs.length - i ∧ i ≤ vs.length ∧ Ext z₁ z' ∧ 0 < s₃.toks ∧ Rel C z' ((s₁.heap.objs.size, .obj o) :: R') s₃ ∧ o.cls = .type "list_iterator" ∧ o.data = .fields #[.ref a, .int (i : Nat) 0] ∧ I (vs.drop i) R')
          | .brk => FPost C z Ψ .next s₃
          | .ret v => FPost C z Ψ (.ret v) s₃) (notedBy C.M A env fun e s' => cameBackBy C.M A env NoE e s') s₂) (notedBy C.M A env fun e s' => cameBackBy C.M A env NoE e s') { s' with heap := h₂ } :=
        wpAny_mono main (fun _ s₂ q => wpAny_mono q (fun f s₃ r => r) fun _ _ x => x.elim) fun _ _ x => x.elim
      dsimp only
      rcases ht with ⟨y, p, rfl⟩ | ⟨es, k, p, rfl⟩
      · exact letGo_name main2
      · cases x with
        | ref T => exact wpAny_letOwnedTupleGo_listiter hit₂ main2
        | _ => exact wpAny_pure main2
    · refine wpAny_pyNext_list_end hh hit hl' (by simp; lia) fun h₂ he₂ => ?_
      have hnil : vs.drop i = [] := by simp; lia
      rw [hnil] at hI'
      have H₂ : Rel C z' R' { s' with heap := h₂ } := (H'.tail).grown (t := s'.toks) hz0 hne he₂
      exact wpNo (s := { s' with heap := h₂ }) t' (fin R' hI' z' _ H₂ t') fun f s₃ _ p => p.ext (e₁.trans e')
end
section
variable {C : Cx} {A : Around} {env : Env} {R : Led} {mg mb : Str → Option Value} {Φ : V → Led → Prop} {Ψ : Fl → Led → Prop} {k : Nat} {pos : Pos}
theorem Rel.inst {z : Fz} {s : Shared} {x dx c : Addr} {m : List (Str × V)} (H : Rel C z R s) (hx : (x, .obj (instObj c dx)) ∈ R) (hd : (dx, .att m) ∈ R) :
    ∃ es n, InstAt s.heap x (instObj c dx) c (some (dictOf es n)) ∧ s.heap.get? dx = some (dictOf es n) ∧ (m.map (·.1)).Nodup ∧ DenE z es m := by
  obtain ⟨hn, es, n, ho, d⟩ := H.att hd
  exact ⟨es, n, ⟨(H.res _ hx).1, rfl, rfl, ho⟩, ho, hn, d⟩
noncomputable def V.isBi : V → Bool
  | .bi _ => true
  | _ => false
theorem handed_of {z : Fz} {u : Value} {v : V} (d : Den z u v) (h : v.isBi = false) : handedIn u = true := by
  cases d <;> first | rfl | cases h
theorem Ev.attr {K : Frag} {x : Str} {xp : Pos} {name : Str} {a dx c : Addr} {m : List (Str × V)} {v : V} (X : K.In C.B)
    (h : Ev C A env (.Name x xp) R fun o R₁ => o = .ref a ∧ (a, .obj (instObj c dx)) ∈ R₁ ∧ (dx, .att m) ∈ R₁ ∧ (name, v) ∈ m ∧ Φ v R₁)
    (hg : plainGet K c name = true) (hh : hasDictIn K c = true) (ha : findIn K (.ref c) name = some Option.none) (hv : v.isBi = false := by rfl)
    (he : eval (.Attribute (.Name x xp) name pos) env = (do
      let o ← eval (.Name x xp) env
      standAt pos.atName
      let r ← holding [o] (getAttr o name true)
      letTemporaryGo (.Name x xp) o r
      pure r) := by with_unfolding_all rfl) : Ev C A env (.Attribute (.Name x xp) name pos) R Φ := fun z s H t =>
  Attribute_Name_ (h.then H t fun z₁ R₁ o u s₁ e₁ H₁ t₁ d₁ ⟨e, h1, h2, h3, h4⟩ => by
    subst e; obtain rfl := d₁.refI
    obtain ⟨es, n, I, ho, hn, d⟩ := H₁.inst h1 h2
    obtain ⟨en, u, f, e, du⟩ := d.find hn h3
    have hl : lookIn name (dictOf es n) = some (some u) := by
      rw [lookIn_dict]; unfold getL; rw [f]; dsimp only; rw [e]
    exact get_value (X.keeps H₁.keepB) I (plainGet_of hg).1 (findObj_own (attr := Option.none) hh ha rfl hl) (handed_of du hv) ⟨z₁, R₁, v, e₁, H₁.toks _, du, h4⟩) he
theorem DenE.put {z : Fz} {x : Str} {v : V} {u : Value} {hs : Int} {t : Tok} : ∀ {es : List DictEntry} {m m' : List (Str × V)}, DenE z es m → (m.map (·.1)).Nodup → Put m x v m' → Den z u v → DenE z (putL x hs (.str x t) u es) m'
  | _, _, _, .cons (t := tt) (x := y) d r, hn, .here, du => by
    unfold putL
    rw [if_pos (by simp [Value.isStr])]
    exact .cons du r
  | _, _, _, .cons (x := y) d r, hn, .there p, du => by
    unfold putL
    have : y ≠ x := fun e => (List.nodup_cons.mp hn).1 (by dsimp only; rw [e]; exact p.isKey)
    rw [if_neg (by simp [Value.isStr, this])]
    exact .cons d (r.put (List.nodup_cons.mp hn).2 p du)
theorem DenE.add {z : Fz} {x : Str} {v : V} {u : Value} {hs : Int} {t : Tok} : ∀ {es : List DictEntry} {m : List (Str × V)}, DenE z es m → x ∉ m.map (·.1) → Den z u v → DenE z (putL x hs (.str x t) u es) (m ++ [(x, v)])
  | _, _, .nil, _, du => .cons du .nil
  | _, _, .cons (x := y) d r, h, du => by
    unfold putL
    have : y ≠ x := fun e => h (by simp [e])
    rw [if_neg (by simp [Value.isStr, this])]
    exact .cons d (r.add (fun e => h (by simp only [List.map_cons, List.mem_cons]; exact .inr e)) du)
inductive PutA (m : List (Str × V)) (x : Str) (v : V) : List (Str × V) → Prop where
  | old {m' : List (Str × V)} : Put m x v m' → PutA m x v m'
  | new : x ∉ m.map (·.1) → PutA m x v (m ++ [(x, v)])
theorem DenE.putA {z : Fz} {x : Str} {v : V} {u : Value} {hs : Int} {t : Tok} {es : List DictEntry} {m m' : List (Str × V)} (d : DenE z es m) (hn : (m.map (·.1)).Nodup) (p : PutA m x v m') (du : Den z u v) :
    DenE z (putL x hs (.str x t) u es) m' ∧ (m'.map (·.1)).Nodup ∧ (getL x es).isSome = true := by
  have hg : (getL x es).isSome = true := by
    unfold getL
    split
    · rfl
    · rw [d.noRef]; rfl
  cases p with
  | old p => exact ⟨d.put hn p du, p.keys ▸ hn, hg⟩
  | new h => exact ⟨d.add h du, by rw [List.map_append]; exact List.nodup_append.mpr ⟨hn, by simp, fun a ha b hb => by
      have : b = x := by simpa using hb
      subst this; exact fun e => h (e ▸ ha)⟩, hg⟩
theorem setAttr_raw {K : Frag} {z : Fz} {s : Shared} {x dx c : Addr} {es : List DictEntry} {n : Nat} {name : Str} {u : Value} {Q : Unit → Shared → Prop} {E : Value → Shared → Prop} (X : K.In s.heap) (I : InstAt s.heap x (instObj c dx) c (some (dictOf es n))) (ho : s.heap.get? dx = some (dictOf es n))
    (hs : findIn K (.ref c) "__setattr__" = some (some (.builtin "object.__setattr__"))) (hp : plainOver K c = true) (ht : takerIn K c name = some Option.none) (hh : hasDictIn K c = true) (hl : (getL name es).isSome = true)
    (hz : (putL name (PyData.keyHash C.w.params name) (.str name (s.toks + 1)) u es).length ≤ 1000)
    (h : ∀ h' n', Heap.SameBut dx s.heap h' → h'.get? dx = some (dictOf (putL name (PyData.keyHash C.w.params name) (.str name (s.toks + 1)) u es) n') → Q () { s with heap := h', toks := s.toks + 2 }) :
    wpAny C.M A (setAttr (.ref x) name u) Q E s := by
  refine set_plain (od := some (dictOf es n)) X I hs (osa_open (s := { s with toks := s.toks + 1 }) X I hp ht fun b => ?_)
  obtain ⟨cd, hc, hd'⟩ := any_some (show (clsIn K c).any (·.hasDict) = true from hh)
  obtain ⟨hx, -, -, -⟩ := I
  dsimp only
  refine wpAny_bind (wpAny_pure (wpAny_bind (wpAny_bind (wpAny_loadPart hx (wpAny_bind (looks_clsIn X hc _ _ _ { s with toks := s.toks + 1 } (fun _ _ e => e) ?_))))))
  rw [hd']
  refine wpAny_pure (a := some dx) (wpAny_bind (wpAny_pure (wpAny_bind ?_)))
  unfold nsSet
  refine wpAny_bind (wpAny_bind (wpAny_askSetting (wpAny_pure (wpAny_bind (wpAny_mkText (wpAny_bind (wpAny_loadPart ho ?_)))))))
  have c : (!es.toArray.any (·.key.isStr name) && es.toArray.any (·.refKey)) = false := by
    rw [← Array.any_toList, ← Array.any_toList]
    unfold getL at hl
    split at hl
    · rename_i en he
      have : es.any (fun e => e.key.isStr name) = true := List.any_eq_true.mpr ⟨en, List.mem_of_find?_eq_some he, List.find?_some (p := fun x : DictEntry => x.key.isStr name) he⟩
      rw [show es.toArray.toList.any (fun e => e.key.isStr name) = true from this]; rfl
    · split at hl
      · cases hl
      · rename_i z1; rw [Bool.not_eq_true] at z1
        rw [show es.toArray.toList.any (fun e => e.refKey) = false from z1, Bool.and_false]
  dsimp only
  rw [aRefKeyMayBeTheName_at, c]
  refine wpAny_updatePart ho ?_
  have D' : (s.heap.update dx (Obj.putName name (PyData.keyHash C.w.params name) (.str name (s.toks + 1)) u)).get? dx = some (dictOf (putL name (PyData.keyHash C.w.params name) (.str name (s.toks + 1)) u es) (putN name es n)) := by
    rw [Heap.get?_update_self _ ho (by rw [putName_dict]; rfl), putName_dict]
  refine wpAny_bind (wpAny_lookBehind D' (pastItsLine_dict (by rw [List.size_toArray, sizeLine_eq]; lia)) ?_)
  exact wpAny_pure (h _ _ (Heap.SameBut.update ..) D')
theorem As.attr {K : Frag} {o : Expr} {name : Str} {a dx c : Addr} {m m' : List (Str × V)} {v : V} {R' : Led} {Φ : Led → Prop} (X : K.In C.B)
    (h : Ev C A env o R fun ov R₁ => ov = .ref a ∧ (a, .obj (instObj c dx)) ∈ R₁ ∧ (dx, .att m) ∈ R₁ ∧ PutA m name v m' ∧ Upd R₁ dx (.att m) (.att m') R' ∧ Φ R')
    (hs : findIn K (.ref c) "__setattr__" = some (some (.builtin "object.__setattr__"))) (hp : plainOver K c = true) (ht : takerIn K c name = some Option.none) (hh : hasDictIn K c = true) (hz : m'.length ≤ 1000 := by exact Nat.le_of_ble_eq_true rfl) : As C A env (.Attribute o name pos) v R Φ := fun z s u H t d => by
  rw [assign_Attribute]
  refine wpAny_bind (wpAny_holding (h.then H t fun z₁ R₁ ov w s₁ e₁ H₁ t₁ d₁ ⟨e, h1, _, h2, h3, h4⟩ => wpAny_bind (wpAny_standAt (wpAny_bind (wpAny_holding ?_)))))
  subst e; obtain rfl := d₁.refI
  obtain ⟨es, n, I, ho, hn, dE⟩ := H₁.inst h1 h3.old
  obtain ⟨p1, p2, p3⟩ := dE.putA (hs := PyData.keyHash C.w.params name) (t := s₁.toks + 1) hn h2 (d.mono e₁)
  refine setAttr_raw (z := z₁) (X.keeps H₁.keepB) I ho hs hp ht hh p3 (by rw [p1.length]; exact hz) fun h' n' hb hg => wpAny_release ⟨z₁, R', e₁, H₁.upd h3 hb ⟨p2, _, n', hg, p1⟩, h4⟩
theorem Ex1.assignA {o value : Expr} {name : Str} {pos' : Pos} (h : Ev C A env value R fun v R₁ => As C A env (.Attribute o name pos') v R₁ fun R₂ => Ψ .next R₂)
    (hs : swapsWith value (some (.Attribute o name pos')) pos.line env = pure false := by rfl) : Ex1 C A env (.Assign [.Attribute o name pos'] value pos) R Ψ := fun z s H t => by
  rw [plainObj_exec_Assign_Attribute o name pos' value pos hs]
  exact wpAny_bind (wpAny_standAt (wpAny_bind (h.then H t fun z₁ R₁ v u s₁ e₁ H₁ t₁ d₁ h₁ => wpAny_bind (As.then h₁ H₁ t₁ d₁ fun z₂ R₂ s₂ e₂ H₂ t₂ p => wpAny_pure ⟨z₂, R₂, _, e₁.trans e₂, H₂, .next, p⟩))))
theorem Ev.methI {K : Frag} {o : Expr} {name : Str} {apos : Pos} {args : List Expr} {a dx c f : Addr} {m : List (Str × V)} (X : K.In C.B)
    (h : Ev C A env o R fun ov R₁ => ov = .ref a ∧ (a, .obj (instObj c dx)) ∈ R₁ ∧ (dx, .att m) ∈ R₁ ∧ name ∉ m.map (·.1) ∧ EvL C A env args R₁ fun vs R₂ => Cl C A (.ref f) (.ref a :: vs) R₂ Φ)
    (hg : plainGet K c name = true) (hf : findIn K (.ref c) name = some (some (.ref f))) (ht : isFn K (.ref f) = true) (hk : keepIn K (.ref f) = true)
    (hbase : attributeBase o name env (eval o env) = eval o env := by rfl) (hp : plainArgs args = true := by rfl)
    (hfew : methodCallForm (args.length + ([] : List Keyword).length) (backTo pos (starEach args env)) (backToKw pos (keywordEach [] env)) = true := by rfl)
    (hline : (apos.endLine == pos.line) = true := by rfl) : Ev C A env (.Call (.Attribute o name apos) args [] pos) R Φ := fun z s H t => by
  rw [arm_eval_Call, hbase]
  refine wpAny_bind (h.then H t fun z₁ R₁ ov u s₁ e₁ H₁ t₁ d₁ ⟨e, h1, h2, h3, h₁⟩ => wpAny_bind (wpAny_standAt ?_))
  subst e; obtain rfl := d₁.refI
  obtain ⟨es, n, I, ho, hn, dE⟩ := H₁.inst h1 h2
  have hpos : methodCallPos true o env apos pos = pure pos := by unfold methodCallPos; simp [hline]
  unfold methodCall
  rw [hfew]
  have hsh : shadowIn (some (dictOf es n)) name = some false := by
    show (lookIn name (dictOf es n)).map (·.isSome) = some false
    rw [lookIn_dict]; unfold getL
    rw [dE.miss h3, dE.noRef]; rfl
  refine wpAny_bind (wpAny_holding (method_fn (X.keeps H₁.keepB) I (plainGet_of hg).1 (plainGet_of hg).2 hf (beq_iff_eq.mp ht) hsh ?_))
  refine wpAny_bind (wpAny_of_eq hpos ?_)
  refine callWith_of (P := fun h => ∃ k, (k = Keeper.frame ∨ k = Keeper.machine ∨ k = Keeper.boundFrame) ∧ Looks C.M h (keeperOf (.ref f)) k) ?_ (fun _ p => p) (evalArgs_of hp (wpNo t₁ (h₁ pos z₁ s₁ H₁ t₁) fun us s₂ t₂ ⟨z₂, R₂, vs, e₂, H₂, d₂, hl, p⟩ => ⟨?_, ?_⟩))
  · rw [backTo_plain hp]; rfl
  · exact Kpr.cls X hk _ _ _ H₂ (.ref f)
  · exact p.then H₂ t₂ (.ref f) (.cons (.ref a) d₂) fun z₃ R₃ v u' s₃ e₃ H₃ t₃ d₃ p₃ => ⟨z₃, R₃, v, (e₁.trans e₂).trans e₃, H₃, d₃, p₃⟩
theorem Cl.make {K : Frag} {c fI : Addr} {vs : List V} (X : K.In C.B) (hm : makesIn K c = true) (hi : findIn K (.ref c) "__init__" = some (some (.ref fI))) (hf : typeIn K (.ref fI) = some (.type "function"))
    (h : ∀ x dx us, ClC C (A.under (.builtin "type.__call__" ⟨.ref c :: us, []⟩)) (.ref fI) (.ref x :: vs) ((x, .obj (instObj c dx)) :: (dx, .att []) :: R) fun v R' => v = .none ∧ Φ (.ref x) R') : Cl C A (.ref c) vs R Φ := fun z s u us H t d ds => by
  obtain rfl := d.refI
  obtain ⟨hh, g, dr, tk, os⟩ := s
  have X' := X.keeps H.keepB
  refine wpAny_call (make_core (makes_of X' hm) (looks_findIn X' hi) (fun self => bind_fn X' self hf) (.inl rfl) ?_)
  have H1 : Rel C z ((hh.objs.size, .att []) :: R) ⟨hh.push emptyDict, g, dr, tk, os⟩ := H.pushR (o := emptyDict) (r := .att []) ⟨List.nodup_nil, [], 0, Heap.get?_push_size _ rfl, .nil⟩
  have H2 : Rel C z ((hh.objs.size + 1, .obj (instObj c hh.objs.size)) :: (hh.objs.size, .att []) :: R) ⟨(hh.push emptyDict).push (instObj c hh.objs.size), g, dr, tk, os⟩ := by
    have := H1.pushR (o := instObj c hh.objs.size) (r := .obj (instObj c hh.objs.size)) (Heap.get?_push_size _ rfl)
    dsimp only at this
    rw [Heap.size_push] at this
    exact this
  refine codeAny_mono (h (hh.objs.size + 1) hh.objs.size us z _ _ _ H2 t (.ref fI) (.cons (.ref _) ds)) fun r s' p => ?_
  rcases r with e | (_ | _ | _ | v)
  · exact p.elim
  · exact p
  · exact p
  · exact p
  · obtain ⟨z₁, R₁, v', e₁, H₁, d₁, e, q⟩ := p
    subst e; obtain rfl := d₁.noneI
    exact ⟨rfl, z₁, R₁, _, e₁, H₁, .ref _, q⟩
end
section
variable {C : Cx} {A : Around} {env : Env} {R : Led} {mg mb : Str → Option Value} {Φ : V → Led → Prop} {Ψ : Fl → Led → Prop} {k : Nat} {pos : Pos}
theorem Cl.lenS {x : Str} (hx : x.length ≤ 16777216) (h : Φ (.int x.length) R) : Cl C A (.bi "len") [.str x] R Φ := fun z s u us H t d ds => by
  obtain rfl := d.biI
  obtain ⟨_, _, rfl, q0, e0⟩ := ds.consI
  obtain ⟨_, rfl⟩ := q0.strI
  obtain rfl := e0.nilI
  exact SBL.len (by lia) (.mk (H.toks _) (.int _ _) h)
theorem Cl.lenL {v : V} {vs : List V} (l : LstOf R v vs) (hx : vs.length ≤ 16777216) (h : Φ (.int vs.length) R) : Cl C A (.bi "len") [v] R Φ := fun z s u us H t d ds => by
  obtain rfl := d.biI
  obtain ⟨_, _, rfl, d1, e0⟩ := ds.consI
  obtain rfl := e0.nilI
  obtain ⟨a, its, rfl, h1, d1⟩ := l.is H d1
  have hz : its.size = vs.length := by rw [← Array.length_toList]; exact d1.length
  exact len_list h1 (by lia) (.mk (H.toks _) (by rw [hz]; exact .int _ _) h)
theorem Cl.append {a : Addr} {vs : List V} {v : V} {R' : Led} (u : Upd R a (.list vs) (.list (vs ++ [v])) R') (hx : vs.length ≤ 16777216) (h : Φ .none R') : Cl C A (.bi "list.append") [.ref a, v] R Φ := fun z s f us H t d ds => by
  obtain rfl := d.biI
  obtain ⟨_, _, rfl, q0, e0⟩ := ds.consI
  obtain rfl := q0.refI
  obtain ⟨x, _, rfl, d3, e1⟩ := e0.consI
  obtain rfl := e1.nilI
  obtain ⟨⟨its, n, h1, dl⟩, hz⟩ := H.res _ u.old
  have hsz : its.size = vs.length := by rw [← Array.length_toList]; exact dl.length
  refine wpAny_list_append_plain (l := a) ⟨n, h1⟩ (fun h' ⟨n', hg⟩ hs => ?_) (by rw [hsz, sizeLine_eq]; exact hx)
  exact ⟨z, R', _, Ext.refl _, H.upd (t := s.toks) u hs ⟨_, n', hg, by simpa using dl.append (.cons d3 .nil)⟩, .none, h⟩
theorem Cl.find3 {x y : Str} {i : Int} (h : Φ (.int (Txt.find3 x y i)) R) : Cl C A (.bi "str.find") [.str x, .str y, .int i] R Φ := fun z s u us H t d ds => by
  obtain rfl := d.biI
  obtain ⟨_, _, rfl, q0, e0⟩ := ds.consI
  obtain ⟨_, rfl⟩ := q0.strI
  obtain ⟨_, _, rfl, q1, e1⟩ := e0.consI
  obtain ⟨_, rfl⟩ := q1.strI
  obtain ⟨_, _, rfl, q2, e2⟩ := e1.consI
  obtain ⟨_, rfl⟩ := q2.intI
  obtain rfl := e2.nilI
  exact SC.find3 (.mk (H.toks _) (.int _ _) h)
theorem DenL.strs {z : Fz} : ∀ {us : List Value} {xs : List Str}, DenL z us (xs.map V.str) → ∃ l : List (Str × Tok), us = strValues l ∧ l.map (·.1) = xs
  | _, [], h => by cases h; exact ⟨[], rfl, rfl⟩
  | _, x :: xs, h => by
    cases h with | cons d r =>
      cases d
      rename_i t
      obtain ⟨l, rfl, e⟩ := r.strs
      exact ⟨(x, t) :: l, rfl, by simp [e]⟩
theorem Cl.join {x : Str} {v : V} {xs : List Str} (l : LstOf R v (xs.map V.str)) (hj : (xs.map (·.length)).sum + xs.length * x.length ≤ 16777216) (h : Φ (.str (Txt.join x xs)) R) : Cl C A (.bi "str.join") [.str x, v] R Φ := fun z s u us H t d ds => by
  obtain rfl := d.biI
  obtain ⟨_, _, rfl, q0, e0⟩ := ds.consI
  obtain ⟨_, rfl⟩ := q0.strI
  obtain ⟨_, _, rfl, d3, e1⟩ := e0.consI
  obtain rfl := e1.nilI
  obtain ⟨a, its, rfl, h1, d1⟩ := l.is H d3
  obtain ⟨l', e1, e2⟩ := d1.strs
  have h1' : s.heap.IsList a (strValues l').toArray := by rw [← e1]; simpa using h1
  refine SC.join h1' e2 ?_ fun _ _ => .mk (H.toks _) (.str _ _) h
  unfold JoinOk Builtin.Str.tooLong
  rw [StrLaws.joinTotal]
  simp only [Bool.not_eq_true', decide_eq_false_iff_not]
  try rw [sizeLine_eq]
  lia
end
noncomputable def appendOf (a : Addr) : Obj := { cls := .type "builtin_function_or_method", data := .fields #[.builtin "list.append", .ref a] }
theorem slot_mdget : Slot "method_descriptor" "__get__" "method_descriptor.__get__" :=
  .of (owner := "method_descriptor") (n := "__get__") (by rw [typeLookup_type, builtinLookup_eq_fast]; kernel_rfl) (by decide +kernel) (by decide +kernel) (by decide +kernel)
    (by first | exact .inl (by decide +kernel) | exact .inr (by decide +kernel)) (by rw [isSubtype_type]; kernel_rfl)
theorem entry_mdget : entryFor table "method_descriptor.__get__" = some Builtin.«method_descriptor.__get__» := entryFor_of_tree (by kernel_rfl)
theorem args_mdget (a b c : Value) : argsOk "method_descriptor.__get__" ⟨[a, b, c], []⟩ := by unfold argsOk; kernel_rfl
theorem type_lapp : typeOf (.builtin "list.append") = pure (.type "method_descriptor") := PySem.F.type_list_append
theorem md_set : typeLookup (.type "method_descriptor") "__set__" = pure none := by rw [typeLookup_type, builtinLookup_eq_fast]; kernel_rfl
theorem md_del : typeLookup (.type "method_descriptor") "__delete__" = pure none := by rw [typeLookup_type, builtinLookup_eq_fast]; kernel_rfl
theorem sub_list : isSubtype (.type "list") (.type "list") = pure true := by rw [isSubtype_type]; kernel_rfl
theorem told_not : Manifest.toldItsClass.contains "list.append" = false := by decide +kernel
section
variable {C : Cx} {A : Around} {s : Shared} {E : Value → Shared → Prop} {a : Addr} {its : Array Value} {n : Nat}
theorem run_mdget {P : Fin → Shared → Prop} {prog : Program} {w : World} (hx : s.heap.get? a = some { cls := .type "list", data := .seq its n })
    (h : P (.done (.ret (.ref s.heap.objs.size))) { s with heap := s.heap.push (appendOf a) }) :
    wpAny (model prog w) A (Builtin.«method_descriptor.__get__» ⟨[.builtin "list.append", .ref a, .type "list"], []⟩) P E s := by
  obtain ⟨hp, g, d, tk, os⟩ := s
  have hT : ∀ tk', (⟨hp, g, d, tk', os⟩ : Shared).TypeIs (.ref a) "list" := fun _ => ⟨_, hx, rfl⟩
  unfold Builtin.«method_descriptor.__get__»
  refine wpAny_bind (wpAny_of_eq (a := (.builtin "list.append", some (.ref a), some (.type "list"))) (by first | rfl | kernel_rfl) ?_)
  dsimp only
  rw [told_not, if_neg Bool.false_ne_true]
  refine wpAny_bind ?_
  refine wpAny_bind (wpAny_of_eq (a := (Str.ofString "append", .type "list")) (by first | rfl | kernel_rfl) ?_)
  refine wpAny_bind (wpAny_isInstance (hT _) sub_list ?_)
  rw [if_neg (by decide)]
  refine wpAny_pure ?_
  refine wpAny_bind (wpAny_newObj_type (wpAny_pure h))
theorem getAttr_append {Q : Value → Shared → Prop} {prog : Program} {w : World} (hx : s.heap.get? a = some { cls := .type "list", data := .seq its n })
    (h : ∀ tk, Q (.ref s.heap.objs.size) { s with heap := s.heap.push (appendOf a), toks := tk }) : wpAny (model prog w) A (getAttr (.ref a) "append" true) Q E s := by
  obtain ⟨hp, g, d, tk, os⟩ := s
  have hT : ∀ tk', (⟨hp, g, d, tk', os⟩ : Shared).TypeIs (.ref a) "list" := fun _ => ⟨_, hx, rfl⟩
  have f3 := PySem.F.slot_list_getattribute.lookup
  have f4 := PySem.F.slot_list_getattribute.bind (.ref a)
  have f5 := am_list_getattr_none
  have f6 := PySem.F.slot_list_append.lookup
  unfold getAttr getAttrBy
  refine wpAny_bind (wpAny_mkText (wpAny_holding (wpAny_bind (wpAny_typeOf (hT _) (wpAny_bind (wpAny_of_eq f3 ?_))))))
  show wpAny _ _ (getAttrByItsOwn _ _ _ _ _ _) _ _ _
  unfold getAttrByItsOwn
  refine wpAny_bind (wpAny_pure (wpAny_bind (wpAny_attempt (wpAny_holding ?_))))
  show wpAny _ _ (boundAndCalled _ _ _) _ _ _
  unfold boundAndCalled
  refine wpAny_bind (wpAny_of_eq f4 ?_)
  refine wpAny_call_entry PySem.F.slot_list_getattribute (hT _) am_entry_list_getattribute ?_ (PySem.F.args_list_getattribute_2 _ _)
  unfold Builtin.«object.__getattribute__»
  refine wpAny_bind (wpAny_of_eq (a := (.ref a, [.str "append" tk])) (by first | rfl | kernel_rfl) ?_)
  refine wpAny_bind (wpAny_of_eq (a := Str.ofString "append") (by first | rfl | kernel_rfl) ?_)
  refine wpAny_bind (wpAny_typeOf (hT _) ?_)
  unfold Builtin.ObjectAttr.find
  refine wpAny_bind (wpAny_bind (wpAny_of_eq f6 ?_))
  refine wpAny_bind (m := specialOf (.builtin "list.append") "__get__") (wpAny_of_eq (a := some (.builtin "method_descriptor.__get__")) (by unfold specialOf; rw [type_lapp]; exact slot_mdget.lookup) ?_)
  refine wpAny_bind (wpAny_bind (wpAny_bind (wpAny_of_eq (a := none) (by unfold specialOf; rw [type_lapp]; exact md_set) ?_)))
  rw [if_neg (by decide)]
  refine wpAny_bind (wpAny_of_eq (a := none) (by unfold specialOf; rw [type_lapp]; exact md_del) (wpAny_pure ?_))
  refine wpAny_pure ?_
  dsimp only
  unfold Builtin.ObjectAttr.ownThenClass
  refine wpAny_bind (wpAny_bind (wpAny_bind (wpAny_loadPart hx ?_)))
  dsimp only
  unfold instanceDict
  refine wpAny_bind (wpAny_loadPart hx ?_)
  dsimp only
  rw [if_pos (by decide)]
  refine wpAny_pure (wpAny_pure ?_)
  dsimp only
  refine wpAny_bind (m := Builtin.ObjectAttr.copiedAttributeGuard _ _) (wpAny_of_eq (a := ()) (by
    unfold Builtin.ObjectAttr.copiedAttributeGuard
    dsimp only
    rw [if_neg (by decide)]) ?_)
  refine wpAny_bind (wpAny_rule (wpAny_pure ?_))
  dsimp only
  show wpAny _ _ (do ret (← holding [.builtin "list.append"] (call (.builtin "method_descriptor.__get__") [.builtin "list.append", .ref a, .type "list"]))) _ _ _
  refine wpAny_bind (wpAny_holding (wpAny_call_entry slot_mdget type_lapp entry_mdget (run_mdget hx ⟨_, rfl, wpAny_pure ⟨_, rfl, wpAny_pure (h _)⟩⟩) (args_mdget _ _ _)))
end
section
variable {C : Cx} {A : Around} {env : Env} {R : Led} {Φ : V → Led → Prop} {pos : Pos}
theorem Ev.boundApp {x : Str} {xp : Pos} {a : Addr} {vs : List V} (h : Ev C A env (.Name x xp) R fun o R₁ => o = .ref a ∧ (a, .list vs) ∈ R₁ ∧ ∀ q, Φ (.ref q) ((q, .obj (appendOf a)) :: R₁))
    (he : eval (.Attribute (.Name x xp) "append" pos) env = (do
      let o ← eval (.Name x xp) env
      standAt pos.atName
      let r ← holding [o] (getAttr o "append" true)
      letTemporaryGo (.Name x xp) o r
      pure r) := by with_unfolding_all rfl) : Ev C A env (.Attribute (.Name x xp) "append" pos) R Φ := fun z s H t =>
  Attribute_Name_ (h.then H t fun z₁ R₁ o u s₁ e₁ H₁ t₁ d₁ ⟨e, h1, h2⟩ => by
    subst e; obtain rfl := d₁.refI
    obtain ⟨⟨its, n, ho, d⟩, _⟩ := H₁.res _ h1
    refine getAttr_append ho fun tk => ?_
    have := (H₁.pushR (o := appendOf a) (r := .obj (appendOf a)) (Heap.get?_push_size _ rfl)).toks tk
    exact ⟨z₁, _, _, e₁, this, .ref _, h2 _⟩) he
theorem Kpr.app {a q : Addr} (h : (q, .obj (appendOf a)) ∈ R) : Kpr C R (.ref q) := fun z s u H d => by
  obtain rfl := d.refI
  refine ⟨.machine, .inr (.inl rfl), (Looks.ld (part := Option.none) (H.res _ h).1).andThen ?_⟩
  unfold appendOf
  simp only [show (Value.type "builtin_function_or_method" != Value.type "method") = true by decide, show (Value.type "builtin_function_or_method" == Value.type "builtin_function_or_method" || Value.type "builtin_function_or_method" == Value.type "method-wrapper") = true by decide, if_true]
  exact .now
theorem check_args (a b : Value) : (match Manifest.signature? "list.append" with | some sig => Bind.checkArgs "list.append" { sig with full := toString (Bind.lastOf "list") ++ toString "." ++ toString (Bind.lastOf "list.append") } ⟨[a, b], []⟩ | Option.none => pure ()) = pure () := by
  rw [signature?_of (id := "list.append") (n := ['d', 'n', 'e', 'p', 'p', 'a']) (o := ['t', 's', 'i', 'l']) (by kernel_rfl) PySem.F.owner_list]; kernel_rfl
theorem sub_mod : isSubtype (.type "list") (.type "module") = pure false := by rw [isSubtype_type]; kernel_rfl
theorem kind_app : builtinKind "list.append" = some .method := by decide +kernel
theorem va_app : Manifest.varargsMethods.contains "list.append" = false := by decide +kernel
theorem check_app {M : Model} {s : Shared} {E : Value → Shared → Prop} {a : Addr} {x : Value} {its : Array Value} {n : Nat} {Q : Unit → Shared → Prop} (hx : s.heap.get? a = some { cls := .type "list", data := .seq its n }) (h : Q () s) : wpAny M A (checkBoundCall "list.append" ⟨[.ref a, x], []⟩) Q E s := by
  have hT : s.TypeIs (.ref a) "list" := ⟨_, hx, rfl⟩
  unfold checkBoundCall
  have hc := check_args (.ref a) x
  cases hs : Manifest.signature? "list.append" with
  | none => exact wpAny_pure h
  | some sig =>
    rw [hs] at hc
    dsimp only at hc ⊢
    rw [kind_app]
    dsimp only
    rw [if_neg (by decide)]
    refine wpAny_bind (wpAny_isInstance hT sub_mod ?_)
    rw [va_app, if_neg (by decide)]
    refine wpAny_bind (wpAny_bind ?_)
    refine wpAny_loadPart hx (wpAny_pure ?_)
    dsimp only
    rw [if_neg (by decide)]
    refine wpAny_bind (wpAny_typeOf hT ?_)
    dsimp only
    exact wpAny_of_eq hc h
theorem Cl.app {a q : Addr} {vs : List V} {v : V} {R' : Led} (hq : (q, .obj (appendOf a)) ∈ R) (u : Upd R a (.list vs) (.list (vs ++ [v])) R') (hx : vs.length ≤ 16777215) (h : Φ .none R') : Cl C A (.ref q) [v] R Φ := fun z s f us H t d ds => by
  obtain rfl := d.refI
  obtain ⟨x, _, rfl, d3, d4⟩ := ds.consI
  · obtain rfl := d4.nilI
    obtain ⟨⟨its, n, h1, dl⟩, hz⟩ := H.res _ u.old
    have hsz : its.size = vs.length := by rw [← Array.length_toList]; exact dl.length
    have ho : s.heap.get? q = some (appendOf a) := (H.res _ hq).1
    refine wpAny_call (codeAny_of_tree ?_)
    show wpAny _ A.in1 (callAny (.ref q) ⟨[x], []⟩) _ _ s
    simp only [callAny]
    refine wpAny_bind (wpAny_load ho ?_)
    simp only [appendOf, show (Value.type "builtin_function_or_method" == Value.type "method" || Value.type "builtin_function_or_method" == Value.type "builtin_function_or_method" || Value.type "builtin_function_or_method" == Value.type "method-wrapper") = true by decide, if_true]
    refine KFB.if_so (by decide) ?_
    refine wpAny_bind (check_app h1 ?_)
    refine wpAny_bind (wpAny_pure (wpAny_pure ?_))
    refine ⟨Code.quiet_builtin _ (by decide +kernel), codeAny_builtin entry_list_append ?_⟩
    show wpAny _ _ (updateSeq a (·.push x) >>= fun _ => ret .none) _ _ s
    refine wpAny_bind (wpAny_updateSeq h1 rfl (wpAny_pure ?_) (by rw [hsz, sizeLine_eq]; lia))
    refine ⟨z, R', _, Ext.refl _, H.upd (t := s.toks) u (Heap.SameBut.update ..) ⟨its.push x, n + 1, ?_, by simpa using dl.append (.cons d3 .nil)⟩, .none, h⟩
    rw [Heap.get?_update_self _ h1 (by rw [Obj.mapSeq_push_plain]; rfl), Obj.mapSeq_push_plain]
end
mutual
noncomputable def V.data : V → Option PyData
  | .none => some .none
  | .bool b => some (.bool b)
  | .int i => some (.int i)
  | .str x => some (.str x)
  | .tup vs => (V.datas vs).map .tuple
  | .lst vs => (V.datas vs).map .list
  | .any => Option.none
  | .ref _ => Option.none
  | .bi _ => Option.none
  | .ty _ => Option.none
  | .dct _ _ => Option.none
noncomputable def V.datas : List V → Option (List PyData)
  | [] => some []
  | v :: vs => (V.data v).bind fun d => (V.datas vs).map (d :: ·)
end
section
variable {C : Cx} {A : Around} {env : Env} {R : Led} {Φ : V → Led → Prop} {pos : Pos}
theorem Den.reads {z : Fz} {h : Heap} (hk : ∀ a o, z a = some o → h.get? a = some o) {u : Value} {v : V} {d : PyData} (D : Den z u v) (e : v.data = some d) : ∃ as, Reads h u d as :=
  Den.rec (motive_1 := fun u v _ => ∀ d, v.data = some d → ∃ as, Reads h u d as) (motive_2 := fun us vs _ => ∀ ds, V.datas vs = some ds → ∃ as, ReadsAll h us ds as)
    (fun d e => by simp only [V.data] at e; cases e; exact ⟨_, .none⟩) (fun b d e => by simp only [V.data] at e; cases e; exact ⟨_, .bool b⟩) (fun i t d e => by simp only [V.data] at e; cases e; exact ⟨_, .int i t⟩) (fun x t d e => by simp only [V.data] at e; cases e; exact ⟨_, .str x t⟩)
    (fun a d e => by simp only [V.data] at e; cases e) (fun a d e => by simp only [V.data] at e; cases e) (fun a d e => by simp only [V.data] at e; cases e)
    (fun h1 h2 h3 ds ih d e => by
      simp only [V.data] at e
      obtain ⟨xs, e1, rfl⟩ := Option.map_eq_some_iff.mp e
      obtain ⟨as, r⟩ := ih _ e1
      exact ⟨_, reads_tuple_at (hk _ _ h1) h2 h3 r⟩)
    (fun h1 h2 h3 ds ih d e => by
      simp only [V.data] at e
      obtain ⟨xs, e1, rfl⟩ := Option.map_eq_some_iff.mp e
      obtain ⟨as, r⟩ := ih _ e1
      exact ⟨_, reads_list_at (hk _ _ h1) h2 h3 r⟩)
    (fun h1 h2 h3 ds ih d e => by simp only [V.data] at e; cases e)
    (fun ds e => by simp only [V.datas] at e; cases e; exact ⟨_, .nil⟩)
    (fun d ds i1 i2 r e => by
      simp only [V.datas] at e
      obtain ⟨x, e1, e⟩ := Option.bind_eq_some_iff.mp e
      obtain ⟨xs, e2, rfl⟩ := Option.map_eq_some_iff.mp e
      obtain ⟨as, r⟩ := i1 _ e1
      obtain ⟨bs, q⟩ := i2 _ e2
      exact ⟨_, .cons r q⟩) D d e
theorem Cmp.eqD {a b : V} {x y : PyData} {Φ : Bool → Led → Prop} (ha : a.data = some x) (hb : b.data = some y) (h1 : SeqAt.shaped x = true) (h2 : SeqAt.shaped y = true) (hu : A.units + 64 < cLine) (h : Φ (x.eqv y) R) : Cmp C A .Eq a b R Φ := fun z s u v H t d e => by
  obtain ⟨as, r⟩ := d.reads H.kept ha
  obtain ⟨bs, q⟩ := e.reads H.kept hb
  exact eq_dataH r q h1 h2 hu (bp H h)
theorem Cmp.neD {a b : V} {x y : PyData} {Φ : Bool → Led → Prop} (ha : a.data = some x) (hb : b.data = some y) (h1 : SeqAt.shaped x = true) (h2 : SeqAt.shaped y = true) (hu : A.units + 64 < cLine) (h : Φ (!x.eqv y) R) : Cmp C A .NotEq a b R Φ := fun z s u v H t d e => by
  obtain ⟨as, r⟩ := d.reads H.kept ha
  obtain ⟨bs, q⟩ := e.reads H.kept hb
  exact ne_dataH r q h1 h2 hu (bp H h)
theorem Ev.and2 {x y : Expr} (h : Ev C A env x R fun v R₁ => Tr C A v R₁ fun b R₂ => if b = true then Ev C A env y R₂ Φ else Φ v R₂) : Ev C A env (.BoolOp .And [x, y] pos) R Φ := fun z s H t =>
  wpAny_And2 (h.then H t fun z₁ R₁ v u s₁ e₁ H₁ t₁ d₁ h₁ => wpNo t₁ (h₁ z₁ s₁ u H₁ t₁ d₁) fun b s₂ t₂ ⟨z₂, R₂, e₂, H₂, p⟩ => by
    cases b with
    | false => exact ⟨z₂, R₂, v, e₁.trans e₂, H₂, d₁.mono e₂, p⟩
    | true => exact wpNo t₂ (show wpAny _ _ (eval y env) _ _ _ from p z₂ s₂ H₂ t₂) fun _ _ _ q => q.ext (e₁.trans e₂))
inductive FrzN (a : Addr) (vs : List V) : List (Str × V) → List (Str × V) → Prop where
  | nil : FrzN a vs [] []
  | same {p : Str × V} {m m' : List (Str × V)} : FrzN a vs m m' → FrzN a vs (p :: m) (p :: m')
  | hit {x : Str} {m m' : List (Str × V)} : FrzN a vs m m' → FrzN a vs ((x, .ref a) :: m) ((x, .lst vs) :: m')
inductive Frz (a : Addr) (vs : List V) : Bool → Led → Led → Prop where
  | rest {R : Led} : Frz a vs false R R
  | same {b : Bool} {p : Addr × Res} {R R' : Led} : Frz a vs b R R' → Frz a vs b (p :: R) (p :: R')
  | gone {R R' : Led} : Frz a vs false R R' → Frz a vs true ((a, .list vs) :: R) R'
  | ns {b : Bool} {L : Addr} {m m' : List (Str × V)} {R R' : Led} : FrzN a vs m m' → Frz a vs b R R' → Frz a vs b ((L, .ns m) :: R) ((L, .ns m') :: R')
  | att {b : Bool} {L : Addr} {m m' : List (Str × V)} {R R' : Led} : FrzN a vs m m' → Frz a vs b R R' → Frz a vs b ((L, .att m) :: R) ((L, .att m') :: R')
theorem FrzN.keys {a : Addr} {vs : List V} {m m' : List (Str × V)} (f : FrzN a vs m m') : m'.map (·.1) = m.map (·.1) := by
  induction f with
  | nil => rfl
  | same _ ih => simp [ih]
  | hit _ ih => simp [ih]
theorem FrzN.mem {a : Addr} {vs : List V} {m m' : List (Str × V)} (f : FrzN a vs m m') : ∀ p ∈ m', p ∈ m ∨ (p.2 = .lst vs ∧ (p.1, .ref a) ∈ m) := by
  induction f with
  | nil => exact fun p hp => nomatch hp
  | same _ ih => exact fun p hp => (List.mem_cons.mp hp).elim (fun e => e ▸ .inl (.head _)) fun hp => (ih p hp).imp (fun h => .tail _ h) fun ⟨a, b⟩ => ⟨a, .tail _ b⟩
  | hit _ ih => exact fun p hp => (List.mem_cons.mp hp).elim (fun e => e ▸ .inr ⟨rfl, .head _⟩) fun hp => (ih p hp).imp (fun h => .tail _ h) fun ⟨a, b⟩ => ⟨a, .tail _ b⟩
theorem FrzN.denE {z : Fz} {a : Addr} {vs : List V} {m m' : List (Str × V)} (f : FrzN a vs m m') (hd : Den z (.ref a) (.lst vs)) : ∀ {es : List DictEntry}, DenE z es m → DenE z es m' := by
  induction f with
  | nil => exact fun h => h
  | same _ ih => intro es h; cases h with | cons d r => exact .cons d (ih r)
  | hit _ ih => intro es h; cases h with | cons d r => cases d; exact .cons hd (ih r)
theorem Frz.keys {a : Addr} {vs : List V} {b : Bool} {R R' : Led} (f : Frz a vs b R R') : (R.map (·.1)).Nodup → (R'.map (·.1)).Nodup ∧ (∀ x ∈ R'.map (·.1), x ∈ R.map (·.1)) ∧ (b = true → (a, .list vs) ∈ R ∧ a ∉ R'.map (·.1)) := by
  induction f with
  | rest => exact fun h => ⟨h, fun _ x => x, fun e => nomatch e⟩
  | same _ ih =>
    intro h
    obtain ⟨h1, h2⟩ := List.nodup_cons.mp h
    obtain ⟨x, y, w⟩ := ih h2
    refine ⟨List.nodup_cons.mpr ⟨fun q => h1 (y _ q), x⟩, fun k hk => (List.mem_cons.mp hk).elim (fun e => e ▸ .head _) fun q => .tail _ (y k q), fun e => ?_⟩
    obtain ⟨w1, w2⟩ := w e
    exact ⟨.tail _ w1, fun q => (List.mem_cons.mp q).elim (fun e => h1 (by dsimp only at e ⊢; rw [← e]; exact List.mem_map_of_mem (f := (·.1)) w1)) w2⟩
  | gone _ ih =>
    intro h
    obtain ⟨h1, h2⟩ := List.nodup_cons.mp h
    obtain ⟨x, y, w⟩ := ih h2
    exact ⟨x, fun k hk => .tail _ (y k hk), fun _ => ⟨.head _, fun q => h1 (y _ q)⟩⟩
  | ns _ _ ih =>
    intro h
    obtain ⟨h1, h2⟩ := List.nodup_cons.mp h
    obtain ⟨x, y, w⟩ := ih h2
    refine ⟨List.nodup_cons.mpr ⟨fun q => h1 (y _ q), x⟩, fun k hk => (List.mem_cons.mp hk).elim (fun e => e ▸ .head _) fun q => .tail _ (y k q), fun e => ?_⟩
    obtain ⟨w1, w2⟩ := w e
    exact ⟨.tail _ w1, fun q => (List.mem_cons.mp q).elim (fun e => h1 (by dsimp only; dsimp only at e; rw [← e]; exact List.mem_map_of_mem (f := (·.1)) w1)) w2⟩
  | att _ _ ih =>
    intro h
    obtain ⟨h1, h2⟩ := List.nodup_cons.mp h
    obtain ⟨x, y, w⟩ := ih h2
    refine ⟨List.nodup_cons.mpr ⟨fun q => h1 (y _ q), x⟩, fun k hk => (List.mem_cons.mp hk).elim (fun e => e ▸ .head _) fun q => .tail _ (y k q), fun e => ?_⟩
    obtain ⟨w1, w2⟩ := w e
    exact ⟨.tail _ w1, fun q => (List.mem_cons.mp q).elim (fun e => h1 (by dsimp only; dsimp only at e; rw [← e]; exact List.mem_map_of_mem (f := (·.1)) w1)) w2⟩
theorem Frz.res {z z' : Fz} {h : Heap} {a : Addr} {vs : List V} {b : Bool} {R R' : Led} (f : Frz a vs b R R') (hz : Ext z z') (hd : Den z' (.ref a) (.lst vs)) : (∀ p ∈ R, ResAt z h p.1 p.2) → ∀ p ∈ R', ResAt z' h p.1 p.2 := by
  induction f with
  | rest => exact fun H p hp => (H p hp).keeps hz fun _ e => e
  | same _ ih => exact fun H p hp => (List.mem_cons.mp hp).elim (fun e => e ▸ (H _ (.head _)).keeps hz fun _ e => e) fun hp => ih (fun q hq => H q (.tail _ hq)) p hp
  | gone _ ih => exact fun H p hp => ih (fun q hq => H q (.tail _ hq)) p hp
  | ns f _ ih =>
    refine fun H p hp => (List.mem_cons.mp hp).elim (fun e => ?_) fun hp => ih (fun q hq => H q (.tail _ hq)) p hp
    subst e
    obtain ⟨hn, g, hN, hg⟩ := H _ (.head _)
    refine ⟨f.keys ▸ hn, g, hN, fun p hp => ?_⟩
    rcases f.mem p hp with q | ⟨q1, q2⟩
    · exact (hg p q).imp id fun ⟨v, e, d⟩ => ⟨v, e, d.mono hz⟩
    · rcases hg _ q2 with e | ⟨v, e, d⟩
      · cases e
      · cases d; exact .inr ⟨_, e, q1 ▸ hd⟩
  | att f _ ih =>
    refine fun H p hp => (List.mem_cons.mp hp).elim (fun e => ?_) fun hp => ih (fun q hq => H q (.tail _ hq)) p hp
    subst e
    obtain ⟨hn, es, n, ho, d⟩ := H _ (.head _)
    exact ⟨f.keys ▸ hn, es, n, ho, f.denE hd (d.mono hz)⟩
theorem Rel.frz {z : Fz} {s : Shared} {a : Addr} {vs : List V} {R R' : Led} (H : Rel C z R s) (f : Frz a vs true R R') : ∃ z', Ext z z' ∧ Rel C z' R' s := by
  obtain ⟨k1, k2, k3⟩ := f.keys H.nodup
  obtain ⟨m1, m2⟩ := k3 rfl
  obtain ⟨⟨its, n, ho, d⟩, hz⟩ := H.res _ m1
  have hx := zput_ext (o := ({ cls := .type "list", data := .seq its n } : Obj)) hz
  refine ⟨zput z a { cls := .type "list", data := .seq its n }, hx, fun b o e => hx _ _ (H.base _ _ e), fun b o e => ?_, fun p hp => ⟨f.res hx (.lst zput_self rfl rfl (d.mono hx)) (fun q hq => (H.res q hq).1) p hp, ?_⟩, k1, H.gens, H.os⟩
  · unfold zput at e
    by_cases q : b = a
    · rw [if_pos q] at e; cases e; subst q; exact ho
    · rw [if_neg q] at e; exact H.kept _ _ e
  · unfold zput
    have hne : p.1 ≠ a := fun e => m2 (e ▸ List.mem_map_of_mem hp)
    rw [if_neg hne]
    have := k2 p.1 (List.mem_map_of_mem hp)
    obtain ⟨q, hq, e⟩ := List.mem_map.mp this
    rw [← e]; exact (H.res q hq).2
theorem Ex.frz {b : List Stmt} {a : Addr} {vs : List V} {R' : Led} {Ψ : Fl → Led → Prop} (f : Frz a vs true R R') (h : Ex C A env b R' Ψ) : Ex C A env b R Ψ := fun z s H t =>
  let ⟨z', e, H'⟩ := H.frz f; wpNo t (h z' s H' t) fun _ _ _ p => p.ext e
end
theorem check_meth {M : Model} {A : Around} {E : Value → Shared → Prop} {s : Shared} {i owner n : String} {self : Value} {rest : List Value} {kw : List (Str × Value)} {Q : Unit → Shared → Prop}
    (hk : builtinKind i = some .method) (hs : splitId i = some (owner, n)) (hi : Looks M s.heap (isInstance self (.type owner)) true) (ha : argsOk i ⟨self :: rest, kw⟩) (q : Q () s) :
    wpAny M A (checkBuiltinCall i ⟨self :: rest, kw⟩) Q E s := by
  simp only [checkBuiltinCall, hk, hs]
  refine wpAny_bind (hi.here ?_)
  simp only [Bool.not_true, Bool.false_eq_true, if_false]
  cases hsig : Manifest.signature? i with
  | none => exact wpAny_pure q
  | some sig =>
    simp only [argsOk, hsig] at ha
    have h2 : Bind.checkArgs i sig ⟨self :: rest, kw⟩ = pure () := ha
    exact wpAny_of_eq h2 q
noncomputable def tabVal (es : Array DictEntry) (c : Int) : Option Value := (es.findIdx? fun e => Value.isInt c e.key).bind fun i => (es[i]?).map (·.val)
structure TabAt (C : Cx) (K : Frag) (tb cls dx fm : Addr) (es : Array DictEntry) (fd : FuncData) (body : List Stmt) : Prop where
  X : K.In C.B
  at_ : ∃ ep sl, C.B.get? tb = some ⟨.ref cls, some dx, .dict es ep, sl⟩
  dict : ∃ od, C.B.get? dx = some od
  keys : IntKeys es
  sub : mroIn K cls (.type "dict") = some true
  seq : noSeq K cls = true
  gi : findIn K (.ref cls) "__getitem__" = some (some (.builtin "dict.__getitem__"))
  mi : findIn K (.ref cls) "__missing__" = some (some (.ref fm))
  fn : typeIn K (.ref fm) = some (.type "function")
  tb : (tb == sysModules) = false
theorem gi_kind : builtinKind "dict.__getitem__" = some .method := by decide +kernel
theorem gi_split : splitId "dict.__getitem__" = some ("dict", "__getitem__") := by decide +kernel
theorem gi_plain : plainId "dict.__getitem__" = true := by decide +kernel
section
variable {C : Cx} {A : Around} {K : Frag} {tb cls dx fm : Addr} {es : Array DictEntry} {R : Led} {Φ : V → Led → Prop} {fd : FuncData} {body : List Stmt}
theorem Tab.get {z : Fz} {s : Shared} {c : Int} {t : Tok} {Q : Value → Shared → Prop} (T : TabAt C K tb cls dx fm es fd body) (H : Rel C z R s) (ht : 0 < s.toks)
    (hm : tabVal es c = none → Cl C A.in1 (.ref fm) [.ref tb, .int c] R fun v R' => v = .int 120 ∧ R' = R)
    (hv : ∀ v, tabVal es c = some v → ∃ i u, v = .int i u)
    (h : ∀ z' s' i u, Ext z z' → Rel C z' R s' → 0 < s'.toks → (i = match tabVal es c with | some (.int i _) => i | _ => 120) → Q (.int i u) s') : wpAny C.M A (getItem (.ref tb) (.int c t)) Q NoE s := by
  obtain ⟨ep, sl, ho⟩ := T.at_
  obtain ⟨od, hdx⟩ := T.dict
  have X := T.X.keeps H.keepB
  have ho' := H.keepB _ _ ho
  have I : InstAt s.heap tb ⟨.ref cls, some dx, .dict es ep, sl⟩ cls (some od) := ⟨ho', rfl, rfl, H.keepB _ _ hdx⟩
  unfold getItem sequenceKey
  refine wpAny_holding (wpAny_bind (wpAny_bind (I.type.here ?_)))
  refine wpAny_bind ((anyM_none X T.seq).here ?_)
  rw [if_pos (show (!false) = true from rfl)]
  refine wpAny_pure (wpAny_bind ?_)
  unfold callSpecial?
  refine wpAny_bind (wpAny_bind (I.type.here ((looks_findIn X T.gi).here ?_)))
  refine wpAny_holding ?_
  rw [slot_dict_getitem.bind]
  refine wpAny_bind (wpAny_pure (wpAny_bind ?_))
  have sub : Looks C.M s.heap (isInstance (.ref tb) (.type "dict")) true := I.type.andThen (looks_mroIn X T.sub)
  show wpAny C.M A (call (.builtin "dict.__getitem__") [.ref tb, .int c t]) _ _ s
  refine wpAny_call (codeAny_call_builtin gi_plain entry_dict_getitem (@check_meth C.M _ _ s "dict.__getitem__" "dict" "__getitem__" (.ref tb) [.int c t] [] _ gi_kind gi_split sub (args_dict_getitem (.ref tb) (.int c t)) ?_))
  show wpAny _ _ (dictGet tb (.int c t) >>= _) _ _ s
  unfold dictGet
  refine wpAny_bind (wpAny_holding (wpAny_bind (wpAny_pyHash_int (wpAny_bind (wpAny_dictFind_int (s := { s with toks := s.toks + 1 }) ho' rfl T.keys ?_)))))
  cases hi : es.findIdx? fun e => Value.isInt c e.key with
  | some i =>
    dsimp only
    refine wpAny_bind (wpAny_dictEntries (s := { s with toks := s.toks + 1 }) ho' rfl (wpAny_pure ?_))
    have hlt : i < es.size := (Array.findIdx?_eq_some_iff_getElem.mp hi).1
    have htv : tabVal es c = some es[i].val := by unfold tabVal; rw [hi]; simp [hlt]
    obtain ⟨j, u, e⟩ := hv _ htv
    simp only [hlt, getElem?_pos, Option.map_some]
    rw [e]
    refine wpAny_pure ?_
    refine wpAny_pure (wpAny_pure ?_)
    exact h z _ j u (Ext.refl _) (H.toks _) (Nat.succ_pos _) (by rw [htv, e])
  | none =>
    dsimp only
    have htv : tabVal es c = none := by unfold tabVal; rw [hi]; rfl
    refine wpAny_pure ?_
    show wpAny _ _ (Builtin.Dict.missed tb (.int c t) >>= _) _ _ _
    refine wpAny_bind (wpAny_missed_other T.tb ?_)
    have H' := H.toks (s.toks + 1)
    have I' : InstAt ({ s with toks := s.toks + 1 } : Shared).heap tb ⟨.ref cls, some dx, .dict es ep, sl⟩ cls (some od) := I
    refine wpAny_bind (I'.type.here ?_)
    rw [if_pos (by simp)]
    refine wpAny_bind (special_fn (s := { s with toks := s.toks + 1 }) X I T.mi T.fn ?_)
    refine (hm htv).then H' (Nat.succ_pos _) (.ref fm) (.cons (.ref tb) (.cons (.int c t) .nil)) fun z₁ R₁ v u s₁ e₁ H₁ t₁ d₁ ⟨e, er⟩ => ?_
    subst e er
    obtain ⟨_, rfl⟩ := d₁.intI
    refine wpAny_bind (wpAny_rule (wpAny_pure ?_))
    refine wpAny_pure (wpAny_pure ?_)
    exact h z₁ _ 120 _ e₁ H₁ t₁ (by rw [htv])
theorem Tab.look {z : Fz} {s : Shared} {c : Nat} {tr : Nat → Nat} {Q : Builtin.Str.Mapped → Shared → Prop} (T : TabAt C K tb cls dx fm es fd body) (H : Rel C z R s) (ht : 0 < s.toks)
    (hm : ∀ c, tabVal es c = none → Cl C A.in1 (.ref fm) [.ref tb, .int c] R fun v R' => v = .int 120 ∧ R' = R)
    (hv : ∀ c v, tabVal es c = some v → ∃ i u, v = .int i u)
    (htr : ∀ c : Nat, (match tabVal es c with | some (.int i _) => i | _ => 120) = (tr c : Int)) (hlt : ∀ c, tr c < 128)
    (h : ∀ z' s', Ext z z' → Rel C z' R s' → 0 < s'.toks → Q (.char (tr c)) s') : wpAny C.M A (Builtin.Str.tableLookup (.ref tb) c) Q NoE s := by
  unfold Builtin.Str.tableLookup
  refine wpAny_bind (wpAny_attempt (wpAny_mono (wpAny_bind (wpAny_mkInt (Tab.get (Q := fun u s' => ∃ z', Ext z z' ∧ Rel C z' R s' ∧ 0 < s'.toks ∧ ∃ k, u = .int (tr c) k) T (H.toks _) (Nat.succ_pos _) (hm _) (hv _) fun z' s' i u e H' t' hi => ?_))) (fun u s' ⟨z', e, H', t', k, hu⟩ => ?_) fun _ _ x => x.elim))
  · rw [htr c] at hi; subst hi; exact ⟨z', e, H', t', u, rfl⟩
  · subst hu
    dsimp only
    refine wpAny_bind (wpAny_pure ?_)
    have h3 : (decide ((tr c : Int) < 0) || decide ((tr c : Int) > 1114111)) = false := by
      have := hlt c
      simp only [Bool.or_eq_false_iff, decide_eq_false_iff_not]; constructor <;> lia
    dsimp only
    rw [if_neg (by rw [h3]; exact Bool.false_ne_true)]
    exact wpAny_pure (h z' s' e H' t')
theorem fold_ones : ∀ (l : List Nat) (acc : Array Nat), (l.map fun d => (⟨#[d]⟩ : Str)).foldl (fun acc p => acc ++ p.cps) acc = acc ++ l.toArray
  | [], acc => by simp
  | d :: l, acc => by rw [List.map_cons, List.foldl_cons, fold_ones l]; simp [Array.append_assoc]
theorem lookup_known {c : Nat} {a : Option Nat} : ∀ {known : List (Nat × Option Nat)}, known.lookup c = some a → (c, a) ∈ known
  | (d, b) :: r, h => by
    rw [List.lookup_cons] at h
    by_cases q : c = d
    · subst q; simp at h; subst h; exact .head _
    · rw [beq_eq_false_iff_ne.mpr q] at h; exact .tail _ (lookup_known h)
theorem Cl.translate {x : Str} {tr : Nat → Nat} (T : TabAt C K tb cls dx fm es fd body)
    (hm : ∀ c, tabVal es c = none → Cl C A.in1.in1 (.ref fm) [.ref tb, .int c] R fun v R' => v = .int 120 ∧ R' = R)
    (hv : ∀ c v, tabVal es c = some v → ∃ i u, v = .int i u)
    (htr : ∀ c : Nat, (match tabVal es c with | some (.int i _) => i | _ => 120) = (tr c : Int)) (hlt : ∀ c, tr c < 128) (hx : x.length ≤ 16777216)
    (h : Φ (.str ⟨(x.cps.toList.map tr).toArray⟩) R) : Cl C A (.bi "str.translate") [.str x, .ref tb] R Φ := fun z s u us H t d ds => by
  obtain rfl := d.biI
  obtain ⟨_, _, rfl, d1, e1⟩ := ds.consI
  obtain ⟨tk, rfl⟩ := d1.strI
  obtain ⟨_, _, rfl, d3, e2⟩ := e1.consI
  obtain rfl := d3.refI
  obtain rfl := e2.nilI
  refine wpAny_call_entry PySem.F.slot_str_translate (typeIs_str _ _ _) PySem.F.entry_str_translate ?_ (PySem.F.args_str_translate_2 _ _)
  unfold Builtin.«str.translate»
  refine wpAny_bind (wpAny_of_eq (a := (.str x tk, x, .ref tb)) (by first | rfl | kernel_rfl) ?_)
  dsimp only
  by_cases h0 : x.length = 0
  · rw [if_pos (by simp [h0])]
    refine wpAny_bind (wpAny_rule (wpAny_bind (wpAny_pure (wpAny_pure ⟨_, rfl, ?_⟩))))
    have hc : x = ⟨(x.cps.toList.map tr).toArray⟩ := by
      have : x.cps = #[] := Array.eq_empty_of_size_eq_zero h0
      obtain ⟨c⟩ := x
      dsimp only at this ⊢
      subst this; rfl
    rw [← hc] at h
    exact .mk H (.str _ _) h
  · rw [if_neg (by simp [h0])]
    refine wpAny_bind (wpAny_mono (wpAny_forIn_array' _ (fun rest b s' => ∃ done z', x.cps.toList = done ++ rest ∧ Ext z z' ∧ Rel C z' R s' ∧ 0 < s'.toks ∧ b.1 = ((done.map tr).map fun d => (⟨#[d]⟩ : Str)).reverse ∧ b.2.1 = done.length ∧ (∀ p ∈ b.2.2.2.1, p.2 = some (tr p.1)) ∧ b.2.2.2.2 = false) (fun b s' => ∃ z', Ext z z' ∧ Rel C z' R s' ∧ 0 < s'.toks ∧ b.1 = ((x.cps.toList.map tr).map fun d => (⟨#[d]⟩ : Str)).reverse ∧ b.2.1 = x.length) ?_ ?_ x.cps _ ⟨[], z, rfl, Ext.refl _, H, t, rfl, rfl, fun _ hp => (nomatch hp), rfl⟩) (fun b s' ⟨z', e, H', t', e1, e2⟩ => ?_) fun _ _ x => x)
    · rintro c rest ⟨pieces, total, fast, known, afterDrop⟩ s' ⟨done, z', hdone, e', H', t', h1, h2, h3, h4⟩
      dsimp only at h1 h2 h3 h4 ⊢
      subst h4
      have hlen : total ≤ x.length := by
        rw [h2]; have := congrArg List.length hdone
        simp at this
        show done.length ≤ x.cps.size
        lia
      have htl : Builtin.Str.tooLong total = false := by
        unfold Builtin.Str.tooLong
        simp only [decide_eq_false_iff_not]
        try rw [sizeLine_eq]
        lia
      rw [htl, if_neg Bool.false_ne_true]
      have next : ∀ (fast' : Bool) (known' : List (Nat × Option Nat)) z'' s'', Ext z z'' → Rel C z'' R s'' → 0 < s''.toks → (∀ p ∈ known', p.2 = some (tr p.1)) →
          ∃ done z', x.cps.toList = done ++ rest ∧ Ext z z' ∧ Rel C z' R s'' ∧ 0 < s''.toks ∧ (({ cps := #[tr c] } :: pieces, total + 1, fast', known', false) : List Str × Nat × Bool × List (Nat × Option Nat) × Bool).1 = ((done.map tr).map fun d => (⟨#[d]⟩ : Str)).reverse ∧ total + 1 = done.length ∧ (∀ p ∈ known', p.2 = some (tr p.1)) ∧ false = false := by
        intro fast' known' z'' s'' e'' H'' t'' hk
        exact ⟨done ++ [c], z'', by simp [hdone], e'', H'', t'', by simp [h1], by simp [h2], hk, rfl⟩
      by_cases hf : fast = true
      · rw [if_pos hf]
        cases hl : known.lookup c with
        | some a =>
          have ha := h3 _ (lookup_known hl)
          dsimp only at ha
          subst ha
          dsimp only
          exact wpAny_bind (wpAny_pure (wpAny_pure (next _ _ z' s' e' H' t' h3)))
        | none =>
          dsimp only
          refine wpAny_bind (Tab.look (tr := tr) T H' t' hm hv htr hlt fun z'' s'' e'' H'' t'' => ?_)
          dsimp only
          rw [if_pos (hlt c)]
          dsimp only
          refine wpAny_bind (wpAny_pure (wpAny_pure (next _ _ z'' s'' (e'.trans e'') H'' t'' fun p hp => ?_)))
          rcases List.mem_cons.mp hp with rfl | hp
          · rfl
          · exact h3 p hp
      · rw [if_neg hf, if_neg Bool.false_ne_true]
        refine wpAny_bind (Tab.look (tr := tr) T H' t' hm hv htr hlt fun z'' s'' e'' H'' t'' => ?_)
        exact wpAny_pure (next _ _ z'' s'' (e'.trans e'') H'' t'' h3)
    · rintro ⟨pieces, total, fast, known, afterDrop⟩ s' ⟨done, z', hdone, e', H', t', h1, h2, h3, h4⟩
      rw [List.append_nil] at hdone
      exact ⟨z', e', H', t', by rw [h1, hdone], by rw [h2, ← hdone]; simp [Str.length]⟩
    · obtain ⟨pieces, total, fast, known, afterDrop⟩ := b
      dsimp only at e1 e2 ⊢
      subst e1 e2
      have htl : Builtin.Str.tooLong x.length = false := by
        unfold Builtin.Str.tooLong
        simp only [decide_eq_false_iff_not]
        try rw [sizeLine_eq]
        lia
      rw [htl, if_neg Bool.false_ne_true, List.reverse_reverse, fold_ones]
      simp only [Array.empty_append]
      refine wpAny_bind (wpAny_mkStr (wpAny_pure ⟨_, rfl, ?_⟩) ?_)
      · exact ⟨z', R, _, e, H'.toks _, .str _ _, h⟩
      · rw [sizeLine_eq]; show ((x.cps.toList.map tr).toArray).size ≤ _; simp; exact hx
end
section
variable {C : Cx} {A : Around} {env : Env} {R : Led} {Φ : V → Led → Prop} {pos : Pos}
theorem Ev.replace {o : Expr} {apos p1 p2 : Pos} {k1 k2 : Nat} {y w : Str}
    (h : Ev C A env o R fun ov R₁ => ∃ x, ov = .str x ∧ x.length + (x.length + 1) * w.length ≤ 16777216 ∧ Φ (.str (Txt.replace x y w)) R₁) (hyz : (y == w) = false := by decide)
    (hbase : attributeBase o "replace" env (eval o env) = eval o env := by rfl)
    (hfew : ((backTo pos (starEach [.Constant (.str y) k1 p1, .Constant (.str w) k2 p2] env)).all (fun x => !x.1) && (backToKw pos (keywordEach [] env)).all (fun x => x.1.isSome) && decide (2 + ([] : List Keyword).length + (if ([] : List Keyword).isEmpty then 0 else 1) < 30)) = true := by rfl)
    (hline : (apos.endLine == pos.line) = true := by rfl) : Ev C A env (.Call (.Attribute o "replace" apos) [.Constant (.str y) k1 p1, .Constant (.str w) k2 p2] [] pos) R Φ := fun z s H t =>
  wpAny_Call_method hbase hfew hline PySem.F.plainAttrs_str PySem.F.slot_str_replace PySem.F.type_str_replace (h.then H t fun z₁ R₁ ov u s₁ e₁ H₁ t₁ d₁ ⟨x, e, hz, h₁⟩ => by
    subst e; obtain ⟨_, rfl⟩ := d₁.strI
    refine ⟨typeIs_str _ _ _, fun a e => (nomatch e), callWith_builtin rfl (evalArgs_of (es := [.Constant (.str y) k1 p1, .Constant (.str w) k2 p2]) rfl ?_)⟩
    refine args_cons (wpAny_Constant_str (args_cons (wpAny_Constant_str (args_nil ?_))))
    refine SC.replace (Nat.ne_of_gt t₁) (Nat.succ_ne_zero _) (Nat.ne_of_lt (Nat.lt_succ_self _)) hyz hz fun t' k => ?_
    exact ⟨z₁, R₁, _, e₁, H₁.toks _, .str _ _, h₁⟩)
end
end Mine
end
section
namespace Mine
inductive Mode where
  | code (j : Bool)
  | com
  | bs
  | str (q w f : Nat)
  | sbs (q w f : Nat)
  | opn (k q f : Nat)
  | cls (k : Nat)
structure St where
  lvl : Nat
  lno : Nat
  good : List Nat
noncomputable def St.nl (s : St) : St := ⟨s.lvl, s.lno + 1, if s.lvl = 0 then s.good ++ [s.lno + 1] else s.good⟩
noncomputable def St.joint (s : St) : St := ⟨s.lvl, s.lno + 1, s.good⟩
noncomputable def St.up (s : St) : St := ⟨s.lvl + 1, s.lno, s.good⟩
noncomputable def St.down (s : St) : St := ⟨s.lvl - 1, s.lno, s.good⟩
noncomputable def step : Mode → Nat → List Nat → St → Mode × St
  | .code _, c, t, s =>
    if c = 120 then (.code false, s)
    else if c = 10 then (.code false, s.nl)
    else if c = 40 then (.code false, s.up)
    else if c = 41 then (.code false, s.down)
    else if c = 34 ∨ c = 39 then (if t.take 2 = [c, c] then (.opn 2 c s.lno, s) else (.str c 0 s.lno, s))
    else if c = 35 then (.com, s)
    else (.bs, s)
  | .com, c, _, s => if c = 10 then (.code false, s.nl) else (.com, s)
  | .bs, c, _, s => if c = 10 then (.code true, s.joint) else (.code false, s)
  | .str q w f, c, t, s =>
    if c = 120 then (.str q w f, s)
    else if (c :: t).take (w + 1) = List.replicate (w + 1) q then (if w = 0 then .code false else .cls w, s)
    else if c = 10 then (if w = 0 then (.code false, s.nl) else (.str q w f, s.joint))
    else if c = 92 then (.sbs q w f, s)
    else (.str q w f, s)
  | .sbs q w f, c, _, s => (.str q w f, if c = 10 then s.joint else s)
  | .opn k q f, _, _, s => (if k ≤ 1 then .str q 2 f else .opn (k - 1) q f, s)
  | .cls k, _, _, s => (if k ≤ 1 then .code false else .cls (k - 1), s)
noncomputable def run : Mode → List Nat → St → Mode × St
  | m, [], s => (m, s)
  | m, c :: t, s => run (step m c t s).1 t (step m c t s).2
noncomputable def init : St := ⟨0, 0, [0]⟩
noncomputable def kindOf : Mode × St → Nat
  | (.str _ _ f, s) => if s.lno = f + 1 then 2 else 3
  | (.code j, s) => if 0 < s.lvl then 4 else if j then 1 else 0
  | (_, s) => if 0 < s.lvl then 4 else 0
noncomputable def goodOf (p : Mode × St) : List Nat := if p.2.good.getLast? = some p.2.lno then p.2.good else p.2.good ++ [p.2.lno]
noncomputable def tr (c : Nat) : Nat :=
  if c = 40 ∨ c = 91 ∨ c = 123 then 40 else if c = 41 ∨ c = 93 ∨ c = 125 then 41
  else if c = 34 ∨ c = 39 ∨ c = 92 ∨ c = 10 ∨ c = 35 then c else 120
noncomputable def read (l : List Nat) : Mode × St := run (.code false) (l.map tr) init
noncomputable def Alpha (c : Nat) : Prop := c = 120 ∨ c = 10 ∨ c = 40 ∨ c = 41 ∨ c = 34 ∨ c = 39 ∨ c = 35 ∨ c = 92
theorem tr_alpha (c : Nat) : Alpha (tr c) := by
  unfold tr
  by_cases h1 : c = 40 ∨ c = 91 ∨ c = 123
  · rw [if_pos h1]; exact .inr (.inr (.inl rfl))
  rw [if_neg h1]
  by_cases h2 : c = 41 ∨ c = 93 ∨ c = 125
  · rw [if_pos h2]; exact .inr (.inr (.inr (.inl rfl)))
  rw [if_neg h2]
  by_cases h3 : c = 34 ∨ c = 39 ∨ c = 92 ∨ c = 10 ∨ c = 35
  · rw [if_pos h3]; rcases h3 with rfl | rfl | rfl | rfl | rfl <;> simp [Alpha]
  rw [if_neg h3]; exact .inl rfl
theorem Alpha.lt {c : Nat} (h : Alpha c) : c < 128 := by rcases h with rfl | rfl | rfl | rfl | rfl | rfl | rfl | rfl <;> decide
theorem Alpha.rest {c : Nat} (h : Alpha c) (h1 : c ≠ 120) (h2 : c ≠ 10) (h3 : c ≠ 40) (h4 : c ≠ 41) (h5 : c ≠ 34) (h6 : c ≠ 39) (h7 : c ≠ 35) : c = 92 := by
  rcases h with h | h | h | h | h | h | h | h
  · exact absurd h h1
  · exact absurd h h2
  · exact absurd h h3
  · exact absurd h h4
  · exact absurd h h5
  · exact absurd h h6
  · exact absurd h h7
  · exact h
theorem tr_lt (c : Nat) : tr c < 128 := (tr_alpha c).lt
end Mine
end
section
open PySem PySem.W PyProof.Rows PySem.Calls
namespace Mine
noncomputable def stAt : Nat → List Stmt → Stmt
  | 0, s :: _ => s
  | n + 1, _ :: r => stAt n r
  | _, [] => .Pass ⟨0, 0, 0, 0⟩
noncomputable def clsB : Stmt → List Stmt
  | .ClassDef _ _ _ b _ _ _ _ _ _ _ => b
  | _ => []
noncomputable def fnB : Stmt → List Stmt
  | .FunctionDef _ _ b _ _ _ _ _ _ _ => b
  | _ => []
noncomputable def fdOf (qual : Str) (pm cd : Value) : Stmt → FuncData
  | .FunctionDef name args body _ _ _ scope _ _ _ => { name := name, qualname := qual, params := args, body := .stmts body, scope := scope, globals := 3, closure := [], defaults := .none, kwdefaults := .none, pyModule := pm, code := cd }
  | _ => default
theorem memH {α : Type} {a : α} {l : List α} : a ∈ a :: l := .head _
theorem memT {α : Type} {a b : α} {l : List α} (h : a ∈ l) : a ∈ b :: l := .tail _ h
theorem ite_t {b : Bool} [Decidable (b = true)] {P Q : Prop} (hb : b = true) (h : P) : if b = true then P else Q := by rw [if_pos hb]; exact h
theorem ite_f {b : Bool} [Decidable (b = true)] {P Q : Prop} (hb : b = false) (h : Q) : if b = true then P else Q := by rw [if_neg (by rw [hb]; exact Bool.false_ne_true)]; exact h
theorem ite_b {b : Bool} {P Q : Prop} (h1 : b = true → P) (h2 : b = false → Q) : if b = true then P else Q := by
  cases b with
  | true => exact h1 rfl
  | false => exact h2 rfl
section
variable {C : Cx} {A : Around} {env : Env} {R R' : Led}
theorem Ts.wk {e : Expr} {Ψ : Bool → Led → Prop} (k : Wk R R') (h : Ts C A env e R' Ψ) : Ts C A env e R Ψ := fun z s H t => h z s (H.wk k) t
end
theorem Ex1.wk {C : Cx} {A : Around} {env : Env} {R R' : Led} {b : Stmt} {Ψ : Fl → Led → Prop} (k : Wk R R') (h : Ex1 C A env b R' Ψ) : Ex1 C A env b R Ψ := fun z s H t => h z s (H.wk k) t
noncomputable def S (l : List Nat) : Str := ⟨l.toArray⟩
@[simp] theorem S_cps (l : List Nat) : (S l).cps.toList = l := by simp [S]
theorem S_of (x : Str) : S x.cps.toList = x := by obtain ⟨c⟩ := x; simp [S]
@[simp] theorem S_len (l : List Nat) : (S l).length = l.length := by simp [S, Str.length]
theorem S_inj {a b : List Nat} : (S a == S b) = decide (a = b) := by
  by_cases h : a = b
  · subst h; simp
  · have : S a ≠ S b := fun e => h (by have := congrArg (fun x : Str => x.cps.toList) e; simpa using this)
    rw [beq_eq_false_iff_ne.mpr this]; simp [h]
theorem S_app (a b : List Nat) : S a ++ S b = S (a ++ b) := by
  show (⟨(S a).cps ++ (S b).cps⟩ : Str) = _
  simp [S]
theorem item_S {l : List Nat} {i : Int} {c : Nat} (h0 : 0 ≤ i) (h : l[i.toNat]? = some c) : Txt.item (S l) i = S [c] := by
  have hlt : i.toNat < l.length := by
    rcases Nat.lt_or_ge i.toNat l.length with q | q
    · exact q
    · rw [List.getElem?_eq_none q] at h; cases h
  unfold Txt.item Txt.charAt
  rw [StrLaws.at_nonneg (x := S l) (n := c) h0 (by simpa [S] using h)]
  rfl
theorem slice_clip {x : Str} {a b : Int} (ha : 0 ≤ a) (hb : 0 ≤ b) : Txt.slice x (some a) (some b) = StrLaws.sliceText x (some (min a x.length)) (some (min b x.length)) := by
  have e : Builtin.Str.strSliceIndices (some a) (some b) 1 x.length = Builtin.Str.strSliceIndices (some (min a x.length)) (some (min b x.length)) 1 x.length := by
    have h1 : ¬ a < 0 := by lia
    have h2 : ¬ b < 0 := by lia
    have h3 : ¬ min a (x.length : Int) < 0 := by lia
    have h4 : ¬ min b (x.length : Int) < 0 := by lia
    have h5 : min (min a (x.length : Int)) x.length = min a x.length := by lia
    have h6 : min (min b (x.length : Int)) x.length = min b x.length := by lia
    simp only [Builtin.Str.strSliceIndices, h1, h2, h3, h4, h5, h6, if_false]
    rfl
  unfold Txt.slice StrLaws.sliceText
  rw [e]
theorem slice_S {l : List Nat} {a b : Int} (ha : 0 ≤ a) (hab : a ≤ b) : Txt.slice (S l) (some a) (some b) = S ((l.drop a.toNat).take (b - a).toNat) := by
  rw [slice_clip ha (by lia), StrLaws.sliceText_plain (by
    simp only [S_len, S_cps]; lia)]
  simp only [S_len, S_cps]
  unfold S
  congr 2
  rcases Int.le_total a l.length with h | h
  · rw [Int.min_eq_left h]
    rcases Int.le_total b l.length with h' | h'
    · rw [Int.min_eq_left h']
    · rw [Int.min_eq_right h', List.take_of_length_le (by simp; lia), List.take_of_length_le (by simp; lia)]
  · rw [Int.min_eq_right h, Int.min_eq_right (by lia)]
    rw [List.drop_eq_nil_of_le (by lia), List.drop_eq_nil_of_le (by lia)]; simp
theorem lit_x : Str.ofString "x" = S [120] := by decide
theorem lit_nl : Str.ofString "\n" = S [10] := by decide
theorem lit_op : Str.ofString "(" = S [40] := by decide
theorem lit_cl : Str.ofString ")" = S [41] := by decide
theorem lit_dq : Str.ofString "\"" = S [34] := by decide
theorem lit_sq : Str.ofString "'" = S [39] := by decide
theorem lit_ha : Str.ofString "#" = S [35] := by decide
theorem lit_bs : Str.ofString "\\" = S [92] := by decide
theorem one_eq (a b : Nat) : (S [a] == S [b]) = (a == b) := by
  rw [S_inj]; by_cases h : a = b <;> simp [h]
theorem mul_S3 (c : Nat) : Txt.mul (S [c]) 3 = S [c, c, c] := by
  unfold Txt.mul
  rw [if_neg (by decide), if_neg (by simp)]
  simp [S]
theorem find_S {l : List Nat} {c : Nat} {i : Nat} (hm : c ∈ l.drop i) : ∃ k, i ≤ k ∧ k < l.length ∧ l[k]? = some c ∧ (∀ j, i ≤ j → j < k → l[j]? ≠ some c) ∧ Txt.find3 (S l) (S [c]) i = k := by
  have hfi : fromIndex (S l).length (i : Int) = i := by unfold fromIndex; rw [if_neg (by lia)]; lia
  have hg : ∀ v, v < l.length → ∀ d, (S l).cps.getD v 0 = d ↔ l[v]? = some d := fun v hv d => by
    simp [S, Array.getD, hv, List.getElem?_eq_getElem hv]
  rcases StrLaws.find3_spec (S l) c i with ⟨_, hn⟩ | ⟨k, h1, h2, h3, h4, h5⟩
  · exfalso
    obtain ⟨j, hj⟩ := List.mem_iff_getElem?.mp hm
    rw [List.getElem?_drop] at hj
    have hlt : i + j < l.length := by
      rcases Nat.lt_or_ge (i + j) l.length with q | q
      · exact q
      · rw [List.getElem?_eq_none q] at hj; cases hj
    exact hn (i + j) (by rw [hfi]; lia) (by simpa using hlt) ((hg _ hlt c).mpr hj)
  · rw [hfi] at h2 h5
    rw [S_len] at h3
    exact ⟨k, h2, h3, (hg k h3 c).mp h4, fun j a b e => h5 j a b ((hg j (by lia) c).mpr e), h1⟩
theorem run_cons (m : Mode) (c : Nat) (t : List Nat) (s : St) : run m (c :: t) s = run (step m c t s).1 t (step m c t s).2 := rfl
theorem com_skip : ∀ (a b : List Nat) (s : St), (∀ c ∈ a, c ≠ 10) → run .com (a ++ b) s = run .com b s
  | [], _, _, _ => rfl
  | c :: a, b, s, h => by
    rw [List.cons_append, run_cons]
    have : step .com c (a ++ b) s = (.com, s) := by simp [step, h c (.head _)]
    rw [this]; exact com_skip a b s fun d hd => h d (.tail _ hd)
theorem opn_skip {q f a b : Nat} {t : List Nat} {s : St} : run (.opn 2 q f) (a :: b :: t) s = run (.str q 2 f) t s := rfl
theorem cls_skip {a b : Nat} {t : List Nat} {s : St} : run (.cls 2) (a :: b :: t) s = run (.code false) t s := rfl
noncomputable def whB : Stmt → List Stmt
  | .While _ b _ _ => b
  | _ => []
noncomputable def ifB : Stmt → List Stmt
  | .If _ b _ _ => b
  | _ => []
set_option Elab.async false
set_option linter.unusedVariables false
set_option maxRecDepth 100000
local macro_rules | `(tactic| walk_at "mem") => `(tactic| first | with_reducible exact memH | (with_reducible refine memT ?_; walk_at "mem"))
local macro_rules | `(tactic| walk_at "put") => `(tactic| first | with_reducible exact Put.here | (apply Put.there; walk_at "put"))
local macro_rules | `(tactic| walk_at "upd") => `(tactic| first | with_reducible exact Upd.here | (apply Upd.there; walk_at "upd"))
local macro_rules | `(tactic| walk_at "wkn") => `(tactic| first | with_reducible exact WkN.nil | (with_reducible apply WkN.same; walk_at "wkn") | (with_reducible apply WkN.any; walk_at "wkn"))
local macro_rules | `(tactic| walk_at "wk") => `(tactic| first | with_reducible exact Wk.rest | (with_reducible apply Wk.same; walk_at "wk") | (with_reducible apply Wk.ns (by walk_at "wkn"); walk_at "wk") | (with_reducible apply Wk.drop; walk_at "wk"))
local macro_rules | `(tactic| walk_at "nm") => `(tactic| (refine Ev.loc (by walk_at "mem") (by walk_at "mem") ?_))
local macro_rules | `(tactic| walk_at "sto") => `(tactic| (refine Sto.loc (by walk_at "mem") (by walk_at "put") (by walk_at "upd") ?_))
noncomputable def sParser : List Stmt := clsB (stAt 15 PySem.Challenge.pw_dm0164_12.main.body)
noncomputable def sStudy : Stmt := stAt 4 sParser
noncomputable def sInner : Stmt := stAt 5 (ifB (stAt 6 (whB (stAt 14 (fnB sStudy)))))
section
variable {C : Cx} {A : Around} {R : Led} {mg mb : Str → Option Value} {Φ : V → Led → Prop}
theorem Itm.strS {l : List Nat} {i : Int} {c : Nat} (h0 : 0 ≤ i) (h1 : l[i.toNat]? = some c) (hx : l.length ≤ 100000) (h : Φ (.str (S [c])) R) : Itm C A (.str (S l)) (.int i) R Φ := by
  have hlt : i.toNat < l.length := by
    rcases Nat.lt_or_ge i.toNat l.length with q | q
    · exact q
    · rw [List.getElem?_eq_none q] at h1; cases h1
  exact Itm.str (by rw [S_len]; lia) (by rw [S_len]; lia) (by rw [S_len]; lia) (by rw [item_S h0 h1]; exact h)
theorem Sli.strS {l : List Nat} {a b : Int} (ha : 0 ≤ a) (hab : a ≤ b) (hx : l.length ≤ 100000) (h : Φ (.str (S ((l.drop a.toNat).take (b - a).toNat))) R) : Sli C A (.str (S l)) (some a) (some b) R Φ :=
  Sli.str (by rw [S_len]; lia) (by rw [slice_S ha hab]; exact h)
theorem Cmp.eqC {a b : Nat} {y : Str} {Φ : Bool → Led → Prop} (hy : y = S [b]) (h : Φ (a == b) R) : Cmp C A .Eq (.str (S [a])) (.str y) R Φ := Cmp.eqS (by rw [hy, one_eq]; exact h)
theorem Cl.findS {x y : Str} {i : Int} {k : Nat} (hk : Txt.find3 x y i = k) (h : Φ (.int k) R) : Cl C A (.bi "str.find") [.str x, .str y, .int i] R Φ := Cl.find3 (by rw [hk]; exact h)
theorem Op2.mul3 {c : Nat} (h : Φ (.str (S [c, c, c])) R) : Op2 C A .Mult (.str (S [c])) (.int 3) R Φ := Op2.mulS (by lia) (by lia) (by simp) (by rw [mul_S3]; exact h)
theorem Cmp.eqT {a b : List Nat} {Φ : Bool → Led → Prop} (h : Φ (decide (a = b)) R) : Cmp C A .Eq (.str (S a)) (.str (S b)) R Φ := Cmp.eqS (by rw [S_inj]; exact h)
noncomputable abbrev RL (q g L x : Addr) (cde : Str) (ii lv ln ct : Int) (good : List V) (R0 : Led) : Led :=
  (q, .obj (appendOf g)) :: (g, .list good) :: (L, .ns [("self", .ref x), ("code", .str cde), ("continuation", .int ct), ("level", .int lv), ("lno", .int ln), ("goodlines", .ref g), ("push_good", .ref q), ("i", .int ii), ("n", .int cde.length), ("ch", .any), ("quote", .any), ("firstlno", .any), ("w", .any)]) :: R0
noncomputable def ctOf : Mode × St → Nat
  | (.str _ _ f, s) => if s.lno = f + 1 then 2 else 3
  | (.code j, _) => if j then 1 else 0
  | _ => 0
structure OInv (l : List Nat) (i : Nat) (m : Mode) (st : St) (ct : Nat) : Prop where
  le : i ≤ l.length
  rn : run m (l.drop i) st = run (.code false) l init
  lt : i < l.length → ct = 0 ∧ ∃ j, m = .code j
  eq : i = l.length → ct = ctOf (m, st)
  gl : st.good.length ≤ i + 1
theorem OInv.code {l : List Nat} {i : Nat} {st : St} (h : i ≤ l.length) (hr : run (.code false) (l.drop i) st = run (.code false) l init) (hg : st.good.length ≤ i + 1) : OInv l i (.code false) st 0 := ⟨h, hr, fun _ => ⟨rfl, false, rfl⟩, fun _ => rfl, hg⟩
theorem run_at {l : List Nat} {i c : Nat} {m : Mode} {st : St} (hc : l[i]? = some c) : run m (l.drop i) st = run (step m c (l.drop (i + 1)) st).1 (l.drop (i + 1)) (step m c (l.drop (i + 1)) st).2 := by
  have hlt : i < l.length := by
    rcases Nat.lt_or_ge i l.length with q | q
    · exact q
    · rw [List.getElem?_eq_none q] at hc; cases hc
  have : l.drop i = c :: l.drop (i + 1) := by
    rw [List.drop_eq_getElem_cons hlt]
    rw [List.getElem?_eq_getElem hlt] at hc; cases hc; rfl
  rw [this]; rfl
theorem OInv.next {l : List Nat} {i c : Nat} {m : Mode} {st st' : St} {ct : Nat} (o : OInv l i m st ct) (hc : l[i]? = some c) (hs : step m c (l.drop (i + 1)) st = (.code false, st')) (hg : st'.good.length ≤ st.good.length + 1 := by simp [St.up, St.down, St.joint]) : OInv l (i + 1) (.code false) st' 0 := by
  have hlt : i < l.length := by
    rcases Nat.lt_or_ge i l.length with q | q
    · exact q
    · rw [List.getElem?_eq_none q] at hc; cases hc
  have hg0 := o.gl
  refine .code hlt ?_ (by lia)
  have := o.rn
  rw [run_at hc, hs] at this
  exact this
inductive OI (q g L x : Addr) (l : List Nat) (R0 : Led) (n : Nat) (R : Led) : Prop where
  | mk (ii lv ln ct : Int) (good : List V) (i : Nat) (m : Mode) (st : St) (k : Nat) : Wk R (RL q g L x (S l) ii lv ln ct good R0) → ii = i → lv = st.lvl → ln = st.lno → ct = k → good = st.good.map (fun n : Nat => V.int n) → n = l.length - i → OInv l i m st k → OI q g L x l R0 n R
structure GInts (mg : Str → Option Value) : Prop where
  c0 : ∃ t, mg "C_NONE" = some (.int 0 t)
  c1 : ∃ t, mg "C_BACKSLASH" = some (.int 1 t)
  c2 : ∃ t, mg "C_STRING_FIRST_LINE" = some (.int 2 t)
  c3 : ∃ t, mg "C_STRING_NEXT_LINES" = some (.int 3 t)
  c4 : ∃ t, mg "C_BRACKET" = some (.int 4 t)
theorem lt_of_get {l : List Nat} {i c : Nat} (hc : l[i]? = some c) : i < l.length := by
  rcases Nat.lt_or_ge i l.length with q | q
  · exact q
  · rw [List.getElem?_eq_none q] at hc; cases hc
theorem drop_of_get {l : List Nat} {i c : Nat} (hc : l[i]? = some c) : l.drop i = c :: l.drop (i + 1) := by
  have hlt := lt_of_get hc
  rw [List.drop_eq_getElem_cons hlt]
  rw [List.getElem?_eq_getElem hlt] at hc; cases hc; rfl
theorem last_next {l : List Nat} {i c : Nat} (hend : l = [] ∨ l.getLast? = some 10) (hc : l[i]? = some c) (h : c ≠ 10) : i + 1 < l.length := by
  have hlt := lt_of_get hc
  rcases hend with e | e
  · subst e; simp at hlt
  · rcases Nat.lt_or_ge (i + 1) l.length with q | q
    · exact q
    · exfalso
      have : i = l.length - 1 := by lia
      rw [List.getLast?_eq_getElem?, ← this, hc] at e
      cases e; exact h rfl
theorem close_run {l : List Nat} {i c w f d : Nat} {st : St} (hw : w = 0 ∨ w = 2) (hc : l[i]? = some d) (hd : d ≠ 120) (h : (l.drop i).take (w + 1) = List.replicate (w + 1) c) :
    run (.str c w f) (l.drop i) st = run (.code false) (l.drop (i + 1 + w)) st ∧ i + 1 + w ≤ l.length := by
  have hlt := lt_of_get hc
  have hl := congrArg List.length h
  simp at hl
  have hs : step (.str c w f) d (l.drop (i + 1)) st = (if w = 0 then .code false else .cls w, st) := by
    rw [drop_of_get hc] at h
    simp only [step, hd, if_false, h, if_true]
  rw [run_at hc, hs]
  rcases hw with rfl | rfl
  · exact ⟨rfl, by lia⟩
  · refine ⟨?_, by lia⟩
    have h1 : i + 1 < l.length := by lia
    have h2 : i + 1 + 1 < l.length := by lia
    rw [List.drop_eq_getElem_cons h1, List.drop_eq_getElem_cons h2]
    rfl
theorem step_str {c w f d : Nat} {t : List Nat} {st : St} (hd : d ≠ 120) (hnc : ¬ (d :: t).take (w + 1) = List.replicate (w + 1) c) :
    step (.str c w f) d t st = if d = 10 then (if w = 0 then (.code false, st.nl) else (.str c w f, st.joint)) else if d = 92 then (.sbs c w f, st) else (.str c w f, st) := by
  dsimp only [step]; rw [if_neg hd, if_neg hnc]
noncomputable abbrev RS (q g L x : Addr) (cde qs : Str) (ii lv ln ct f w : Int) (good : List V) (R0 : Led) : Led :=
  (q, .obj (appendOf g)) :: (g, .list good) :: (L, .ns [("self", .ref x), ("code", .str cde), ("continuation", .int ct), ("level", .int lv), ("lno", .int ln), ("goodlines", .ref g), ("push_good", .ref q), ("i", .int ii), ("n", .int cde.length), ("ch", .any), ("quote", .str qs), ("firstlno", .int f), ("w", .int w)]) :: R0
inductive II (q g L x : Addr) (l qs : List Nat) (c w f lvl i₁ : Nat) (ct : Int) (R0 : Led) (n : Nat) (R : Led) : Prop where
  | mk (ii ln : Int) (good : List V) (i : Nat) (st : St) : Wk R (RS q g L x (S l) (S qs) ii lvl ln ct f w good R0) → ii = i → ln = st.lno → good = st.good.map (fun n : Nat => V.int n) → n = l.length - i → lvl = st.lvl → i₁ ≤ i → i ≤ l.length → run (.str c w f) (l.drop i) st = run (.code false) l init → st.good.length ≤ i + 1 → II q g L x l qs c w f lvl i₁ ct R0 n R
set_option maxHeartbeats 1000000 in
theorem inner {pm cd : Value} {q g L x fa : Addr} {l : List Nat} {R0 : Led} {Ψ : Fl → Led → Prop} {c w f i₁ lvl : Nat} {st₁ : St} {ct ii₁ lv₁ ln₁ fi wi : Int} {good₁ : List V} {qs : Str} (G : GX C mg mb) (N : GInts mg) (hend : l = [] ∨ l.getLast? = some 10) (hlen : l.length ≤ 100000)
    (hw : w = 0 ∨ w = 2) (hq : c = 34 ∨ c = 39) (hii₁ : ii₁ = i₁) (hlv₁ : lv₁ = lvl) (hln₁ : ln₁ = st₁.lno) (hfi : fi = f) (hwi : wi = w) (hqs : qs = S (List.replicate (w + 1) c)) (hct : ct = ((0 : Nat) : Int)) (h1 : i₁ ≤ l.length) (hr₁ : run (.str c w f) (l.drop i₁) st₁ = run (.code false) l init) (hl₁ : lvl = st₁.lvl) (hg₁ : st₁.good.length ≤ i₁ + 1) (hgd : good₁ = st₁.good.map (fun n : Nat => V.int n))
    (hfin : ∀ R (ii ln ct : Int) (good : List V) (i : Nat) (m : Mode) (st : St) (k : Nat), Wk R (RL q g L x (S l) ii lvl ln ct good R0) → ii = i → ln = st.lno → ct = k → good = st.good.map (fun n : Nat => V.int n) → lvl = st.lvl → OInv l i m st k → i₁ ≤ i → Ψ .next R) :
    Ex1 C A (fenv (fdOf "Parser._study1" pm cd sStudy) fa L) sInner (RS q g L x (S l) qs ii₁ lv₁ ln₁ ct fi wi good₁ R0) Ψ := by
  subst hct hgd hii₁ hlv₁ hln₁ hfi hwi hqs
  refine Ex1.whil (II q g L x l (List.replicate (w + 1) c) c w f lvl i₁ _ R0) (n₀ := l.length - i₁) ⟨_, _, _, i₁, st₁, Wk.rest, rfl, rfl, rfl, rfl, hl₁, Nat.le_refl _, h1, hr₁, hg₁⟩ ?_
  rintro n R ⟨ii, ln, good, i, st, wk, rfl, rfl, rfl, rfl, hlv, hi1, hil, hr, hgl⟩
  refine Ts.wk wk (Ts.cmp ?_)
  walk_at "nm"
  walk_at "nm"
  refine Cmp.ltI (ite_b (fun hb => ?_) fun hb => ?_)
  · have hlt : i < l.length := by simpa using hb
    obtain ⟨d, hc⟩ : ∃ d, l[i]? = some d := ⟨l[i], by simp [hlt]⟩
    refine Ex.cons (Ex1.assign (Ev.item ?_))
    walk_at "nm"
    walk_at "nm"
    refine Itm.strS (c := d) (by lia) (by simpa using hc) hlen ?_
    walk_at "sto"
    refine Ex.cons (Ex1.assign (Ev.bin ?_))
    walk_at "nm"
    refine Ev.int (Op2.addI ?_)
    walk_at "sto"
    refine Ex.cons (Ex1.ite (Ts.cmp ?_))
    walk_at "nm"
    refine Ev.str (Cmp.eqC lit_x (ite_b (fun h => ?_) fun h => ?_))
    · have h : d = 120 := by simpa using h
      refine Ex.cons (Ex1.cont ?_)
      refine ⟨l.length - (i + 1), by lia, _, _, _, i + 1, st, by walk_at "wk", by lia, by rfl, by rfl, by rfl, hlv, by lia, by lia, ?_, by lia⟩
      rw [run_at hc] at hr
      simpa [step, h] using hr
    have hd : d ≠ 120 := by simpa using h
    refine Ex.nil ?_
    refine Ex.cons (Ex1.ite (Ts.cmp (Ev.slice ?_)))
    walk_at "nm"
    refine Ev.bin ?_
    walk_at "nm"
    refine Ev.int (Op2.subI ⟨_, rfl, Ev.bin ?_⟩)
    walk_at "nm"
    walk_at "nm"
    refine Op2.addI ⟨_, rfl, Sli.strS (by lia) (by lia) hlen ?_⟩
    walk_at "nm"
    refine Cmp.eqT ?_
    have e1 : ((i : Int) + 1 - 1).toNat = i := by lia
    have e2 : ((i : Int) + 1 + (w : Int) - ((i : Int) + 1 - 1)).toNat = w + 1 := by lia
    rw [e1, e2]
    refine ite_b (fun h => ?_) fun h => ?_
    · have h : (l.drop i).take (w + 1) = List.replicate (w + 1) c := by simpa using h
      obtain ⟨r1, r2⟩ := close_run (f := f) (st := st) hw hc hd h
      refine Ex.cons (Ex1.assign (Ev.bin ?_))
      walk_at "nm"
      walk_at "nm"
      refine Op2.addI ?_
      walk_at "sto"
      refine Ex.cons (Ex1.brk ?_)
      exact hfin _ _ _ _ _ (i + 1 + w) (.code false) st 0 (by walk_at "wk") (by lia) (by rfl) (by rfl) (by rfl) hlv (.code (by lia) (r1 ▸ hr) (by lia)) (by lia)
    have hnc : ¬ (d :: l.drop (i + 1)).take (w + 1) = List.replicate (w + 1) c := by
      rw [← drop_of_get hc]; simpa using h
    refine Ex.nil ?_
    refine Ex.cons (Ex1.ite (Ts.cmp ?_))
    walk_at "nm"
    refine Ev.str (Cmp.eqC lit_nl (ite_b (fun h => ?_) fun h => ?_))
    · have h : d = 10 := by simpa using h
      refine Ex.cons (Ex1.assign (Ev.bin ?_))
      walk_at "nm"
      refine Ev.int (Op2.addI ?_)
      walk_at "sto"
      refine Ex.cons (Ex1.ite (Ts.cmp ?_))
      walk_at "nm"
      refine Ev.int (Cmp.eqI (ite_b (fun h2 => ?_) fun h2 => ?_))
      · have h2 : w = 0 := by simpa using h2
        have r1 : run (.code false) (l.drop (i + 1)) st.nl = run (.code false) l init := by
          rw [run_at hc, step_str hd hnc] at hr
          simpa [h, h2] using hr
        refine Ex.cons (Ex1.ite (Ts.cmp ?_))
        walk_at "nm"
        refine Ev.int (Cmp.eqI (ite_b (fun h3 => ?_) fun h3 => ?_))
        · have h3 : st.lvl = 0 := by rw [← hlv]; simpa using h3
          refine Ex.cons (Ex1.expr (Ev.callN ?_))
          walk_at "nm"
          refine EvL.cons ?_
          walk_at "nm"
          refine EvL.nil ⟨Kpr.app (by walk_at "mem"), Cl.app (by walk_at "mem") (by walk_at "upd") (by simp; lia) ⟨rfl, ?_⟩⟩
          refine Ex.nil (Ex.cons (Ex1.brk ?_))
          exact hfin _ _ _ _ _ (i + 1) (.code false) st.nl 0 (by walk_at "wk") (by lia) (by simp [St.nl]) (by rfl) (by simp [St.nl, h3]) (by simp [St.nl, hlv]) (.code (by lia) r1 (by simp [St.nl, h3]; lia)) (by lia)
        · have h3 : st.lvl ≠ 0 := by rw [← hlv]; simpa using h3
          refine Ex.nil (Ex.cons (Ex1.brk ?_))
          exact hfin _ _ _ _ _ (i + 1) (.code false) st.nl 0 (by walk_at "wk") (by lia) (by simp [St.nl]) (by rfl) (by simp [St.nl, h3]) (by simp [St.nl, hlv]) (.code (by lia) r1 (by simp [St.nl, h3]; lia)) (by lia)
      · have h2 : w ≠ 0 := by simpa using h2
        refine Ex.nil (Ex.cons (Ex1.cont ?_))
        refine ⟨l.length - (i + 1), by lia, _, _, _, i + 1, st.joint, by walk_at "wk", by lia, by simp [St.joint], by simp [St.joint], by rfl, by simpa [St.joint] using hlv, by lia, by lia, ?_, by simp [St.joint]; lia⟩
        rw [run_at hc, step_str hd hnc] at hr
        simpa [h, h2] using hr
    have hd2 : d ≠ 10 := by simpa using h
    refine Ex.nil ?_
    refine Ex.cons (Ex1.ite (Ts.cmp ?_))
    walk_at "nm"
    refine Ev.str (Cmp.eqC lit_bs (ite_b (fun h => ?_) fun h => ?_))
    · have h : d = 92 := by simpa using h
      have hn := last_next hend hc hd2
      obtain ⟨d', hc'⟩ : ∃ d', l[i + 1]? = some d' := ⟨l[i + 1], by simp [hn]⟩
      have hr2 : run (.str c w f) (l.drop (i + 1 + 1)) (if d' = 10 then st.joint else st) = run (.code false) l init := by
        have : step (.str c w f) d (l.drop (i + 1)) st = (.sbs c w f, st) := by rw [step_str hd hnc, if_neg hd2, if_pos h]
        rw [run_at hc, this, run_at hc'] at hr
        simpa [step] using hr
      refine Ex.cons (Ex1.assert (Ts.cmp ?_))
      walk_at "nm"
      walk_at "nm"
      refine Cmp.ltI ⟨by simp; lia, ?_⟩
      refine Ex.cons (Ex1.ite (Ts.cmp (Ev.item ?_)))
      walk_at "nm"
      walk_at "nm"
      refine Itm.strS (c := d') (by lia) (by rw [show ((i : Int) + 1).toNat = i + 1 by lia]; exact hc') hlen ?_
      refine Ev.str (Cmp.eqC lit_nl (ite_b (fun h2 => ?_) fun h2 => ?_))
      · have h2 : d' = 10 := by simpa using h2
        refine Ex.cons (Ex1.assign (Ev.bin ?_))
        walk_at "nm"
        refine Ev.int (Op2.addI ?_)
        walk_at "sto"
        refine Ex.nil (Ex.cons (Ex1.assign (Ev.bin ?_)))
        walk_at "nm"
        refine Ev.int (Op2.addI ?_)
        walk_at "sto"
        refine Ex.cons (Ex1.cont ?_)
        refine ⟨l.length - (i + 1 + 1), by lia, _, _, _, i + 1 + 1, st.joint, by walk_at "wk", by lia, by simp [St.joint], by simp [St.joint], by rfl, by simpa [St.joint] using hlv, by lia, by lia, ?_, by simp [St.joint]; lia⟩
        simpa [h2] using hr2
      · have h2 : d' ≠ 10 := by simpa using h2
        refine Ex.nil (Ex.cons (Ex1.assign (Ev.bin ?_)))
        walk_at "nm"
        refine Ev.int (Op2.addI ?_)
        walk_at "sto"
        refine Ex.cons (Ex1.cont ?_)
        refine ⟨l.length - (i + 1 + 1), by lia, _, _, _, i + 1 + 1, st, by walk_at "wk", by lia, by rfl, by rfl, by rfl, hlv, by lia, by lia, ?_, by lia⟩
        simpa [h2] using hr2
    · have h : d ≠ 92 := by simpa using h
      refine Ex.nil (Ex.nil ?_)
      refine ⟨l.length - (i + 1), by lia, _, _, _, i + 1, st, by walk_at "wk", by lia, by rfl, by rfl, by rfl, hlv, by lia, by lia, ?_, by lia⟩
      rw [run_at hc, step_str hd hnc, if_neg hd2, if_neg h] at hr
      exact hr
  · have he : i = l.length := by
      have hb : ¬ i < l.length := by simpa using hb
      lia
    refine Ex.cons (Ex1.ite (Ts.cmp (Ev.bin ?_)))
    walk_at "nm"
    refine Ev.int (Op2.subI ?_)
    walk_at "nm"
    refine Cmp.eqI (ite_b (fun h => ?_) fun h => ?_)
    · obtain ⟨t2, e2⟩ := N.c2
      refine Ex.cons (Ex1.assign (Ev.glob G e2 (fun _ => .int _ _) ?_))
      walk_at "sto"
      refine Ex.nil (Ex.nil ?_)
      have h : (st.lno : Int) - 1 = f := by simpa using h
      exact hfin _ _ _ _ _ i (.str c w f) st 2 (by walk_at "wk") (by rfl) (by rfl) (by rfl) (by rfl) hlv ⟨hil, hr, fun q => absurd q (by lia), fun _ => by simp [ctOf]; lia, hgl⟩ hi1
    · obtain ⟨t3, e3⟩ := N.c3
      refine Ex.cons (Ex1.assign (Ev.glob G e3 (fun _ => .int _ _) ?_))
      walk_at "sto"
      refine Ex.nil (Ex.nil ?_)
      have h : ¬ (st.lno : Int) - 1 = f := by simpa using h
      exact hfin _ _ _ _ _ i (.str c w f) st 3 (by walk_at "wk") (by rfl) (by rfl) (by rfl) (by rfl) hlv ⟨hil, hr, fun q => absurd q (by lia), fun _ => by simp [ctOf]; lia, hgl⟩ hi1
set_option maxHeartbeats 1000000 in
theorem outer {pm cd : Value} {q g L x f : Addr} {l : List Nat} {R0 : Led} {Ψ : Fl → Led → Prop} (G : GX C mg mb) (N : GInts mg) (hlenN : mg "len" = none) (hh : A.handled = none) (hal : ∀ c ∈ l, Alpha c) (hend : l = [] ∨ l.getLast? = some 10) (hlen : l.length ≤ 100000)
    (hfin : ∀ R (ii lv ln ct : Int) (good : List V) (m : Mode) (st : St), Wk R (RL q g L x (S l) ii lv ln ct good R0) → run (.code false) l init = (m, st) → lv = st.lvl → ln = st.lno → ct = ctOf (m, st) → good = st.good.map (fun n : Nat => V.int n) → Ψ .next R) :
    Ex1 C A (fenv (fdOf "Parser._study1" pm cd sStudy) f L) (stAt 14 (fnB sStudy)) (RL q g L x (S l) 0 0 0 0 [.int 0] R0) Ψ := by
  refine Ex1.whil (OI q g L x l R0) (n₀ := l.length) ⟨0, 0, 0, 0, [.int 0], 0, .code false, init, 0, Wk.rest, rfl, rfl, rfl, rfl, rfl, rfl, .code (Nat.zero_le _) rfl (Nat.le_refl _)⟩ ?_
  rintro n R ⟨ii, lv, ln, ct, good, i, m, st, k, wk, rfl, rfl, rfl, rfl, rfl, rfl, o⟩
  refine Ts.wk wk (Ts.cmp ?_)
  walk_at "nm"
  walk_at "nm"
  refine Cmp.ltI (ite_b (fun hb => ?_) fun hb => ?_)
  · have hlt : i < l.length := by simpa using hb
    obtain ⟨c, hc⟩ : ∃ c, l[i]? = some c := ⟨l[i], by simp [hlt]⟩
    have hca : Alpha c := hal c (List.mem_of_getElem? hc)
    obtain ⟨rfl, j, rfl⟩ := o.lt hlt
    refine Ex.cons (Ex1.assign (Ev.item ?_))
    walk_at "nm"
    walk_at "nm"
    refine Itm.strS (c := c) (by lia) (by simpa using hc) hlen ?_
    walk_at "sto"
    refine Ex.cons (Ex1.assign (Ev.bin ?_))
    walk_at "nm"
    refine Ev.int (Op2.addI ?_)
    walk_at "sto"
    refine Ex.cons (Ex1.ite (Ts.cmp ?_))
    walk_at "nm"
    refine Ev.str (Cmp.eqC lit_x (ite_b (fun h => ?_) fun h => ?_))
    · have h : c = 120 := by simpa using h
      refine Ex.cons (Ex1.cont ?_)
      refine ⟨l.length - (i + 1), by lia, _, _, _, _, _, i + 1, .code false, st, 0, by walk_at "wk", by lia, by rfl, by rfl, by rfl, by rfl, by rfl, o.next hc (by simp [step, h])⟩
    have hn1 : c ≠ 120 := by simpa using h
    refine Ex.nil ?_
    refine Ex.cons (Ex1.ite (Ts.cmp ?_))
    walk_at "nm"
    refine Ev.str (Cmp.eqC lit_nl (ite_b (fun h => ?_) fun h => ?_))
    · have h : c = 10 := by simpa using h
      refine Ex.cons (Ex1.assign (Ev.bin ?_))
      walk_at "nm"
      refine Ev.int (Op2.addI ?_)
      walk_at "sto"
      refine Ex.cons (Ex1.ite (Ts.cmp ?_))
      walk_at "nm"
      refine Ev.int (Cmp.eqI (ite_b (fun h2 => ?_) fun h2 => ?_))
      · have h2 : st.lvl = 0 := by simpa using h2
        refine Ex.cons (Ex1.expr (Ev.callN ?_))
        walk_at "nm"
        refine EvL.cons ?_
        walk_at "nm"
        refine EvL.nil ⟨Kpr.app (by walk_at "mem"), Cl.app (by walk_at "mem") (by walk_at "upd") (by have := o.gl; simp; lia) ⟨rfl, ?_⟩⟩
        refine Ex.nil (Ex.cons (Ex1.cont ?_))
        refine ⟨l.length - (i + 1), by lia, _, _, _, _, _, i + 1, .code false, st.nl, 0, by walk_at "wk", by lia, by rfl, by simp [St.nl], by rfl, by simp [St.nl, h2], by rfl, o.next hc (by simp [step, h]) (by simp [St.nl, h2])⟩
      · have h2 : st.lvl ≠ 0 := by simpa using h2
        refine Ex.nil (Ex.cons (Ex1.cont ?_))
        refine ⟨l.length - (i + 1), by lia, _, _, _, _, _, i + 1, .code false, st.nl, 0, by walk_at "wk", by lia, by rfl, by simp [St.nl], by rfl, by simp [St.nl, h2], by rfl, o.next hc (by simp [step, h]) (by simp [St.nl, h2])⟩
    have hn2 : c ≠ 10 := by simpa using h
    refine Ex.nil ?_
    refine Ex.cons (Ex1.ite (Ts.cmp ?_))
    walk_at "nm"
    refine Ev.str (Cmp.eqC lit_op (ite_b (fun h => ?_) fun h => ?_))
    · have h : c = 40 := by simpa using h
      refine Ex.cons (Ex1.assign (Ev.bin ?_))
      walk_at "nm"
      refine Ev.int (Op2.addI ?_)
      walk_at "sto"
      refine Ex.cons (Ex1.cont ?_)
      refine ⟨l.length - (i + 1), by lia, _, _, _, _, _, i + 1, .code false, st.up, 0, by walk_at "wk", by lia, by simp [St.up], by rfl, by rfl, by rfl, by rfl, o.next hc (by simp [step, h])⟩
    have hn3 : c ≠ 40 := by simpa using h
    refine Ex.nil ?_
    refine Ex.cons (Ex1.ite (Ts.cmp ?_))
    walk_at "nm"
    refine Ev.str (Cmp.eqC lit_cl (ite_b (fun h => ?_) fun h => ?_))
    · have h : c = 41 := by simpa using h
      refine Ex.cons (Ex1.ite (Ts.val ?_))
      walk_at "nm"
      refine Tr.int (ite_b (fun h2 => ?_) fun h2 => ?_)
      · have h2 : st.lvl ≠ 0 := by simpa using h2
        refine Ex.cons (Ex1.assign (Ev.bin ?_))
        walk_at "nm"
        refine Ev.int (Op2.subI ?_)
        walk_at "sto"
        refine Ex.nil (Ex.cons (Ex1.cont ?_))
        refine ⟨l.length - (i + 1), by lia, _, _, _, _, _, i + 1, .code false, st.down, 0, by walk_at "wk", by lia, by simp [St.down]; lia, by rfl, by rfl, by rfl, by rfl, o.next hc (by simp [step, h])⟩
      · have h2 : st.lvl = 0 := by simpa using h2
        refine Ex.nil (Ex.cons (Ex1.cont ?_))
        refine ⟨l.length - (i + 1), by lia, _, _, _, _, _, i + 1, .code false, st.down, 0, by walk_at "wk", by lia, by simp [St.down, h2], by rfl, by rfl, by rfl, by rfl, o.next hc (by simp [step, h])⟩
    have hn4 : c ≠ 41 := by simpa using h
    refine Ex.nil ?_
    refine Ex.cons (Ex1.ite (Ts.or (Ts.cmp ?_)))
    walk_at "nm"
    have hquote : (c = 34 ∨ c = 39) → Ex C A (fenv (fdOf "Parser._study1" pm cd sStudy) f L) (ifB (stAt 6 (whB (stAt 14 (fnB sStudy)))))
        ((q, .obj (appendOf g)) :: (g, .list (st.good.map (fun n : Nat => V.int n))) :: (L, .ns [("self", .ref x), ("code", .str (S l)), ("continuation", .int ((0 : Nat) : Int)), ("level", .int st.lvl), ("lno", .int st.lno), ("goodlines", .ref g), ("push_good", .ref q), ("i", .int ((i : Int) + 1)), ("n", .int (S l).length), ("ch", .str (S [c])), ("quote", .any), ("firstlno", .any), ("w", .any)]) :: R0)
        (fun fl R₂ => fl = .cont ∧ ∃ m, m < l.length - i ∧ OI q g L x l R0 m R₂) := by
      intro hcq
      have hgl := o.gl
      refine Ex.cons (Ex1.assign ?_)
      walk_at "nm"
      walk_at "sto"
      refine Ex.cons (Ex1.ite (Ts.cmp (Ev.slice ?_)))
      walk_at "nm"
      refine Ev.bin ?_
      walk_at "nm"
      refine Ev.int (Op2.subI ⟨_, rfl, Ev.bin ?_⟩)
      walk_at "nm"
      refine Ev.int (Op2.addI ⟨_, rfl, Sli.strS (by lia) (by lia) hlen (Ev.bin ?_)⟩)
      walk_at "nm"
      refine Ev.int (Op2.mul3 (Cmp.eqT ?_))
      have e1 : ((i : Int) + 1 - 1).toNat = i := by lia
      have e2 : ((i : Int) + 1 + 2 - ((i : Int) + 1 - 1)).toNat = 3 := by lia
      rw [e1, e2]
      have hn12 : c ≠ 120 ∧ c ≠ 10 ∧ c ≠ 40 ∧ c ≠ 41 := ⟨hn1, hn2, hn3, hn4⟩
      refine ite_b (fun h3 => ?_) fun h3 => ?_
      · have h3 : (l.drop i).take 3 = [c, c, c] := by simpa using h3
        have hl3 := congrArg List.length h3
        simp at hl3
        have h4 : (l.drop (i + 1)).take 2 = [c, c] := by
          rw [drop_of_get hc] at h3; simpa using h3
        have hr : run (.str c 2 st.lno) (l.drop (i + 1 + 2)) st = run (.code false) l init := by
          have := o.rn
          have hs : step (.code j) c (l.drop (i + 1)) st = (.opn 2 c st.lno, st) := by
            simp only [step, hn12, if_false, hcq, if_true, h4]
          rw [run_at hc, hs] at this
          have h5 : i + 1 < l.length := by lia
          have h6 : i + 1 + 1 < l.length := by lia
          rw [List.drop_eq_getElem_cons h5, List.drop_eq_getElem_cons h6] at this
          exact this
        refine Ex.cons (Ex1.assign (Ev.bin ?_))
        walk_at "nm"
        refine Ev.int (Op2.mul3 ?_)
        walk_at "sto"
        refine Ex.nil (Ex.cons (Ex1.assign ?_))
        walk_at "nm"
        walk_at "sto"
        refine Ex.cons (Ex1.assign (Ev.bin (Ev.callN (Ev.blt G hlenN boot_len (fun _ => .bi _) (EvL.cons ?_)))))
        walk_at "nm"
        refine EvL.nil ⟨Kpr.bi, Cl.lenS (by simp) (Ev.int (Op2.subI ?_))⟩
        walk_at "sto"
        refine Ex.cons (Ex1.assign (Ev.bin ?_))
        walk_at "nm"
        walk_at "nm"
        refine Op2.addI ?_
        walk_at "sto"
        refine Ex.cons ?_
        refine Ex1.wk (by walk_at "wk") (inner (c := c) (w := 2) (f := st.lno) (i₁ := i + 1 + 2) (lvl := st.lvl) (st₁ := st) G N hend hlen (.inr rfl) hcq (by first | (simp; done) | (simp; lia)) (by rfl) (by rfl) (by rfl) (by simp) (by rfl) (by rfl) (by lia) hr rfl (by lia) (by rfl) ?_)
        intro R ii ln ct good i' m st' k wk e1 e2 e3 e4 e5 o' hle
        refine Ex.cons (Ex1.cont ⟨rfl, l.length - i', by have := o'.le; lia, ii, _, ln, ct, good, i', m, st', k, wk, e1, by rw [e5], e2, e3, e4, rfl, o'⟩)
      · have h3 : ¬ (l.drop i).take 3 = [c, c, c] := by simpa using h3
        have h4 : ¬ (l.drop (i + 1)).take 2 = [c, c] := by
          rw [drop_of_get hc] at h3; simpa using h3
        have hr : run (.str c 0 st.lno) (l.drop (i + 1)) st = run (.code false) l init := by
          have := o.rn
          have hs : step (.code j) c (l.drop (i + 1)) st = (.str c 0 st.lno, st) := by
            simp only [step, hn12, if_false, hcq, if_true, h4]
          rw [run_at hc, hs] at this
          exact this
        refine Ex.nil (Ex.cons (Ex1.assign ?_))
        walk_at "nm"
        walk_at "sto"
        refine Ex.cons (Ex1.assign (Ev.bin (Ev.callN (Ev.blt G hlenN boot_len (fun _ => .bi _) (EvL.cons ?_)))))
        walk_at "nm"
        refine EvL.nil ⟨Kpr.bi, Cl.lenS (by simp) (Ev.int (Op2.subI ?_))⟩
        walk_at "sto"
        refine Ex.cons (Ex1.assign (Ev.bin ?_))
        walk_at "nm"
        walk_at "nm"
        refine Op2.addI ?_
        walk_at "sto"
        refine Ex.cons ?_
        refine Ex1.wk (by walk_at "wk") (inner (c := c) (w := 0) (f := st.lno) (i₁ := i + 1) (lvl := st.lvl) (st₁ := st) G N hend hlen (.inl rfl) hcq (by simp) (by rfl) (by rfl) (by rfl) (by simp) (by rfl) (by rfl) (by lia) hr rfl (by lia) (by rfl) ?_)
        intro R ii ln ct good i' m st' k wk e1 e2 e3 e4 e5 o' hle
        refine Ex.cons (Ex1.cont ⟨rfl, l.length - i', by have := o'.le; lia, ii, _, ln, ct, good, i', m, st', k, wk, e1, by rw [e5], e2, e3, e4, rfl, o'⟩)
    have hin : ∀ b R₂, (b = Fl.cont ∧ ∃ m, m < l.length - i ∧ OI q g L x l R0 m R₂) → Turn (fun R₂ => ∃ m, m < l.length - i ∧ OI q g L x l R0 m R₂) Ψ b R₂ := by
      rintro b R₂ ⟨rfl, h⟩; exact h
    refine Ev.str (Cmp.eqC lit_dq (ite_b (fun h => ?_) fun h => ?_))
    · have h : c = 34 := by simpa using h
      refine Ex.mono (hquote (.inl h)) ?_
      rintro b R₂ ⟨rfl, h⟩; exact h
    have hq1 : c ≠ 34 := by simpa using h
    refine Ts.or (Ts.cmp ?_)
    walk_at "nm"
    refine Ev.str (Cmp.eqC lit_sq (ite_b (fun h => ?_) fun h => Ts.or_nil ?_))
    · have h : c = 39 := by simpa using h
      refine Ex.mono (hquote (.inr h)) ?_
      rintro b R₂ ⟨rfl, h⟩; exact h
    have hq2 : c ≠ 39 := by simpa using h
    refine Ex.nil (Ex.cons (Ex1.ite (Ts.cmp ?_)))
    walk_at "nm"
    refine Ev.str (Cmp.eqC lit_ha (ite_b (fun h => ?_) fun h => ?_))
    · have h : c = 35 := by simpa using h
      have hnx := last_next hend hc hn2
      have hmem : 10 ∈ l.drop (i + 1) := by
        rcases hend with e | e
        · subst e; simp at hlt
        · have : (l.drop (i + 1)).getLast? = some 10 := by
            rw [List.getLast?_drop, if_neg (by lia)]; exact e
          exact List.mem_of_getLast? this
      obtain ⟨k, k1, k2, k3, k4, k5⟩ := find_S hmem
      have hrk : run (.code false) (l.drop k) st = run (.code false) l init := by
        have h0 := o.rn
        have hs : step (.code j) c (l.drop (i + 1)) st = (.com, st) := by simp [step, h]
        rw [run_at hc, hs] at h0
        have hsp : l.drop (i + 1) = (l.drop (i + 1)).take (k - (i + 1)) ++ l.drop k := by
          have := (List.take_append_drop (k - (i + 1)) (l.drop (i + 1))).symm
          rw [List.drop_drop] at this
          rwa [show i + 1 + (k - (i + 1)) = k by lia] at this
        dsimp only at h0
        rw [hsp, com_skip _ _ _ (fun d hd e => by
          subst e
          obtain ⟨y, hy, hye⟩ := List.mem_iff_getElem.mp hd
          simp at hy
          have : l[i + 1 + y]? = some 10 := by
            rw [← hye]; simp [List.getElem?_eq_getElem (show i + 1 + y < l.length by lia)]
          exact k4 (i + 1 + y) (by lia) (by lia) this), run_at k3] at h0
        rw [run_at k3]
        simpa [step] using h0
      have hgl := o.gl
      refine Ex.cons (Ex1.assign (Ev.meth (T := "str") ⟨PySem.F.plainAttrs_str, PySem.F.slot_str_find, PySem.F.type_str_find⟩ ?_))
      refine Ev.loc (by walk_at "mem") (by walk_at "mem") ⟨TyIs.str, EvL.cons (Ev.str (EvL.cons ?_))⟩
      refine Ev.loc (by walk_at "mem") (by walk_at "mem") (EvL.nil (Cl.findS (k := k) (by rw [lit_nl]; exact_mod_cast k5) ?_))
      walk_at "sto"
      refine Ex.cons (Ex1.assert (Ts.cmp ?_))
      walk_at "nm"
      refine Ev.int (Cmp.geI ⟨by simp, ?_⟩)
      refine Ex.cons (Ex1.cont ?_)
      refine ⟨l.length - k, by lia, _, _, _, _, _, k, .code false, st, 0, by walk_at "wk", by rfl, by rfl, by rfl, by rfl, by rfl, by rfl, .code (by lia) hrk (by lia)⟩
    have hq3 : c ≠ 35 := by simpa using h
    have hc92 : c = 92 := hca.rest hn1 hn2 hn3 hn4 hq1 hq2 hq3
    have hgl := o.gl
    have hnx := last_next hend hc hn2
    obtain ⟨d', hc'⟩ : ∃ d', l[i + 1]? = some d' := ⟨l[i + 1], by simp [hnx]⟩
    have hr2 : run (if d' = 10 then .code true else .code false) (l.drop (i + 1 + 1)) (if d' = 10 then st.joint else st) = run (.code false) l init := by
      have h0 := o.rn
      have hs : step (.code j) c (l.drop (i + 1)) st = (.bs, st) := by simp [step, hc92]
      rw [run_at hc, hs, run_at hc'] at h0
      by_cases q : d' = 10
      · simpa [step, q] using h0
      · simpa [step, q] using h0
    refine Ex.nil (Ex.cons (Ex1.assert (Ts.cmp ?_)))
    walk_at "nm"
    refine Ev.str (Cmp.eqC lit_bs ⟨by simp [hc92], ?_⟩)
    refine Ex.cons (Ex1.assert (Ts.cmp ?_))
    walk_at "nm"
    walk_at "nm"
    refine Cmp.ltI ⟨by simp; lia, ?_⟩
    refine Ex.cons (Ex1.ite (Ts.cmp (Ev.item ?_)))
    walk_at "nm"
    walk_at "nm"
    refine Itm.strS (c := d') (by lia) (by rw [show ((i : Int) + 1).toNat = i + 1 by lia]; exact hc') hlen ?_
    refine Ev.str (Cmp.eqC lit_nl (ite_b (fun h2 => ?_) fun h2 => ?_))
    · have h2 : d' = 10 := by simpa using h2
      rw [if_pos h2, if_pos h2] at hr2
      refine Ex.cons (Ex1.assign (Ev.bin ?_))
      walk_at "nm"
      refine Ev.int (Op2.addI ?_)
      walk_at "sto"
      refine Ex.cons (Ex1.ite (Ts.cmp (Ev.bin ?_)))
      walk_at "nm"
      refine Ev.int (Op2.addI ?_)
      walk_at "nm"
      refine Cmp.eqI (ite_b (fun h3 => ?_) fun h3 => ?_)
      · have h3 : i + 1 + 1 = l.length := by
          have : (i : Int) + 1 + 1 = ((S l).length : Int) := by simpa using h3
          rw [S_len] at this; lia
        obtain ⟨t1, e1⟩ := N.c1
        refine Ex.cons (Ex1.assign (Ev.glob G e1 (fun _ => .int _ _) ?_))
        walk_at "sto"
        refine Ex.nil (Ex.nil (Ex.cons (Ex1.assign (Ev.bin ?_))))
        walk_at "nm"
        refine Ev.int (Op2.addI ?_)
        walk_at "sto"
        refine Ex.nil ?_
        refine ⟨l.length - (i + 1 + 1), by lia, _, _, _, _, _, i + 1 + 1, .code true, st.joint, 1, by walk_at "wk", by lia, by simp [St.joint], by simp [St.joint], by rfl, by simp [St.joint], by rfl, ⟨by lia, hr2, fun q => absurd q (by lia), fun _ => by rfl, by simp [St.joint]; lia⟩⟩
      · have h3 : ¬ i + 1 + 1 = l.length := by
          have : ¬ (i : Int) + 1 + 1 = ((S l).length : Int) := by simpa using h3
          rw [S_len] at this; lia
        refine Ex.nil (Ex.nil (Ex.cons (Ex1.assign (Ev.bin ?_))))
        walk_at "nm"
        refine Ev.int (Op2.addI ?_)
        walk_at "sto"
        refine Ex.nil ?_
        refine ⟨l.length - (i + 1 + 1), by lia, _, _, _, _, _, i + 1 + 1, .code true, st.joint, 0, by walk_at "wk", by lia, by simp [St.joint], by simp [St.joint], by rfl, by simp [St.joint], by rfl, ⟨by lia, hr2, fun _ => ⟨rfl, true, rfl⟩, fun q => absurd q h3, by simp [St.joint]; lia⟩⟩
    · have h2 : d' ≠ 10 := by simpa using h2
      rw [if_neg h2, if_neg h2] at hr2
      refine Ex.nil (Ex.cons (Ex1.assign (Ev.bin ?_)))
      walk_at "nm"
      refine Ev.int (Op2.addI ?_)
      walk_at "sto"
      refine Ex.nil ?_
      refine ⟨l.length - (i + 1 + 1), by lia, _, _, _, _, _, i + 1 + 1, .code false, st, 0, by walk_at "wk", by lia, by rfl, by rfl, by rfl, by rfl, by rfl, .code (by lia) hr2 (by lia)⟩
  · refine Ex.nil ?_
    have he : i = l.length := by
      have := o.le
      have hb : ¬ i < l.length := by simpa using hb
      lia
    have hr := o.rn
    rw [he, List.drop_length] at hr
    exact hfin _ _ _ _ _ _ m st Wk.rest hr.symm rfl rfl (by rw [o.eq he]) rfl
end
inductive Sim : List Nat → List Nat → Prop where
  | nil : Sim [] []
  | cons (c : Nat) {t t' : List Nat} : Sim t t' → Sim (c :: t) (c :: t')
  | x {t t' : List Nat} : Sim (120 :: t) t' → Sim (120 :: 120 :: t) t'
  | nl {t t' : List Nat} : t ≠ [] → Sim (10 :: t) t' → Sim (10 :: 120 :: t) t'
theorem Sim.refl : ∀ l, Sim l l
  | [] => .nil
  | c :: l => .cons c (Sim.refl l)
theorem Sim.app {t t' : List Nat} : ∀ p, Sim t t' → Sim (p ++ t) (p ++ t')
  | [], h => h
  | c :: p, h => .cons c (Sim.app p h)
theorem Sim.head {t t' : List Nat} (h : Sim t t') : t.head? = t'.head? := by
  induction h with
  | nil => rfl
  | cons => rfl
  | x _ ih => exact ih
  | nl _ _ ih => exact ih
theorem Sim.mem {t t' : List Nat} (h : Sim t t') : ∀ c ∈ t', c ∈ t := by
  induction h with
  | nil => exact fun _ h => h
  | cons c _ ih => exact fun d hd => (List.mem_cons.mp hd).elim (fun e => e ▸ .head _) fun q => .tail _ (ih d q)
  | x _ ih => exact fun d hd => .tail _ (ih d hd)
  | nl _ _ ih => exact fun d hd => (List.mem_cons.mp (ih d hd)).elim (fun e => e ▸ .head _) fun q => .tail _ (.tail _ q)
theorem Sim.length {t t' : List Nat} (h : Sim t t') : t'.length ≤ t.length := by
  induction h with
  | nil => exact Nat.le_refl _
  | cons c _ ih => exact Nat.succ_le_succ ih
  | x _ ih => exact Nat.le_succ_of_le ih
  | nl _ _ ih => exact Nat.le_succ_of_le ih
theorem Sim.last {t t' : List Nat} (h : Sim t t') : t.getLast? = t'.getLast? := by
  induction h with
  | nil => rfl
  | @cons c t t' h ih =>
    cases t with
    | nil => cases h; rfl
    | cons a t =>
      have hh := h.head
      cases t' with
      | nil => cases hh
      | cons b t' => rw [List.getLast?_cons_cons, List.getLast?_cons_cons]; exact ih
  | x _ ih => rw [List.getLast?_cons_cons]; exact ih
  | @nl t t' hn h ih =>
    cases t with
    | nil => exact absurd rfl hn
    | cons a t => rw [List.getLast?_cons_cons, List.getLast?_cons_cons]; rw [List.getLast?_cons_cons] at ih; exact ih
theorem Sim.peek {t t' : List Nat} {q : Nat} (h1 : q ≠ 120) (h2 : q ≠ 10) (h : Sim t t') : (t.take 2 = [q, q] ↔ t'.take 2 = [q, q]) := by
  cases h with
  | nil => exact Iff.rfl
  | @cons c t t' h =>
    have hh := h.head
    cases t with
    | nil => cases h; exact Iff.rfl
    | cons a t =>
      cases t' with
      | nil => cases hh
      | cons b t' => cases hh; exact Iff.rfl
  | @x t _ h =>
    have hh := h.head
    refine ⟨fun e => ?_, fun e => ?_⟩
    · exact absurd (List.cons.inj e).1.symm h1
    · cases t' with
      | nil => cases hh
      | cons b t' => cases hh; exact absurd (List.cons.inj e).1.symm h1
  | @nl t _ hn h =>
    have hh := h.head
    refine ⟨fun e => ?_, fun e => ?_⟩
    · exact absurd (List.cons.inj e).1.symm h2
    · cases t' with
      | nil => cases hh
      | cons b t' => cases hh; exact absurd (List.cons.inj e).1.symm h2
noncomputable def Quo (q : Nat) : Prop := q = 34 ∨ q = 39
theorem Quo.x {q : Nat} (h : Quo q) : q ≠ 120 := by rcases h with rfl | rfl <;> decide
theorem Quo.nl {q : Nat} (h : Quo q) : q ≠ 10 := by rcases h with rfl | rfl <;> decide
noncomputable def Fit : Mode → List Nat → Prop
  | .str q w _, _ => Quo q ∧ (w = 0 ∨ w = 2)
  | .sbs q w _, _ => Quo q ∧ (w = 0 ∨ w = 2)
  | .opn k q _, t => Quo q ∧ ((k = 2 ∧ ∃ u, t = q :: q :: u) ∨ (k = 1 ∧ ∃ u, t = q :: u))
  | .cls k, t => ∃ q, Quo q ∧ ((k = 2 ∧ ∃ u, t = q :: q :: u) ∨ (k = 1 ∧ ∃ u, t = q :: u))
  | _, _ => True
theorem take_two {t : List Nat} {q : Nat} (h : t.take 2 = [q, q]) : ∃ u, t = q :: q :: u := by
  match t, h with
  | a :: b :: u, h => simp at h; exact ⟨u, by rw [h.1, h.2]⟩
theorem Fit.step {m : Mode} {c : Nat} {t : List Nat} {s : St} (h : Fit m (c :: t)) : Fit (step m c t s).1 t := by
  cases m with
  | code j =>
    dsimp only [Mine.step]
    by_cases h1 : c = 120; · rw [if_pos h1]; exact trivial
    rw [if_neg h1]
    by_cases h2 : c = 10; · rw [if_pos h2]; exact trivial
    rw [if_neg h2]
    by_cases h3 : c = 40; · rw [if_pos h3]; exact trivial
    rw [if_neg h3]
    by_cases h4 : c = 41; · rw [if_pos h4]; exact trivial
    rw [if_neg h4]
    by_cases h5 : c = 34 ∨ c = 39
    · rw [if_pos h5]
      by_cases h6 : t.take 2 = [c, c]
      · rw [if_pos h6]; exact ⟨h5, .inl ⟨rfl, take_two h6⟩⟩
      · rw [if_neg h6]; exact ⟨h5, .inl rfl⟩
    rw [if_neg h5]
    by_cases h6 : c = 35; · rw [if_pos h6]; exact trivial
    rw [if_neg h6]; exact trivial
  | com =>
    dsimp only [Mine.step]
    by_cases h1 : c = 10; · rw [if_pos h1]; exact trivial
    rw [if_neg h1]; exact trivial
  | bs =>
    dsimp only [Mine.step]
    by_cases h1 : c = 10; · rw [if_pos h1]; exact trivial
    rw [if_neg h1]; exact trivial
  | str q w f =>
    dsimp only [Mine.step]
    by_cases h1 : c = 120; · rw [if_pos h1]; exact h
    rw [if_neg h1]
    by_cases h2 : (c :: t).take (w + 1) = List.replicate (w + 1) q
    · rw [if_pos h2]
      rcases h with ⟨hq, rfl | rfl⟩
      · exact trivial
      · refine ⟨q, hq, .inl ⟨rfl, take_two ?_⟩⟩
        exact (List.cons.inj h2).2
    rw [if_neg h2]
    by_cases h3 : c = 10
    · rw [if_pos h3]
      by_cases h4 : w = 0
      · rw [if_pos h4]; exact trivial
      · rw [if_neg h4]; exact h
    rw [if_neg h3]
    by_cases h4 : c = 92; · rw [if_pos h4]; exact h
    rw [if_neg h4]; exact h
  | sbs q w f => exact h
  | opn k q f =>
    obtain ⟨hq, ⟨rfl, u, e⟩ | ⟨rfl, u, e⟩⟩ := h
    · exact ⟨hq, .inr ⟨rfl, u, (List.cons.inj e).2⟩⟩
    · exact ⟨hq, .inr rfl⟩
  | cls k =>
    obtain ⟨q, hq, ⟨rfl, u, e⟩ | ⟨rfl, u, e⟩⟩ := h
    · exact ⟨q, hq, .inr ⟨rfl, u, (List.cons.inj e).2⟩⟩
    · exact trivial
theorem Sim.step {m : Mode} {c : Nat} {t t' : List Nat} {s : St} (h : Sim t t') (g : Fit m (c :: t)) : step m c t s = step m c t' s := by
  cases m with
  | code j =>
    dsimp only [Mine.step]
    by_cases h5 : c = 34 ∨ c = 39
    · have e : (t.take 2 = [c, c]) = (t'.take 2 = [c, c]) := propext (h.peek (Quo.x h5) (Quo.nl h5))
      simp only [e]
    · simp only [if_neg h5]
  | str q w f =>
    have e : ((c :: t).take (w + 1) = List.replicate (w + 1) q) = ((c :: t').take (w + 1) = List.replicate (w + 1) q) := by
      rcases g with ⟨hq, rfl | rfl⟩
      · rfl
      · have := h.peek hq.x hq.nl
        refine propext ⟨fun e => ?_, fun e => ?_⟩
        · obtain ⟨e1, e2⟩ := List.cons.inj e
          show c :: t'.take 2 = q :: [q, q]
          rw [e1, this.mp e2]
        · obtain ⟨e1, e2⟩ := List.cons.inj e
          show c :: t.take 2 = q :: [q, q]
          rw [e1, this.mpr e2]
    dsimp only [Mine.step]
    simp only [e]
  | _ => rfl
theorem run_j {j : Bool} {t : List Nat} {s : St} (h : t ≠ []) : run (.code j) t s = run (.code false) t s := by
  cases t with
  | nil => exact absurd rfl h
  | cons c t => rfl
theorem step_x {m : Mode} {t : List Nat} {s : St} (g : Fit m (120 :: t)) : ∃ m', step m 120 t s = (m', s) ∧ (m' = .code false ∨ m' = .com ∨ ∃ q w f, m' = .str q w f) ∧ Fit m' (120 :: t) ∧ ∀ u, run m' (120 :: u) s = run m (120 :: u) s := by
  cases m with
  | code j => exact ⟨.code false, rfl, .inl rfl, trivial, fun u => rfl⟩
  | com => exact ⟨.com, rfl, .inr (.inl rfl), trivial, fun u => rfl⟩
  | bs => exact ⟨.code false, rfl, .inl rfl, trivial, fun u => rfl⟩
  | str q w f => exact ⟨.str q w f, rfl, .inr (.inr ⟨q, w, f, rfl⟩), g, fun u => rfl⟩
  | sbs q w f => exact ⟨.str q w f, rfl, .inr (.inr ⟨q, w, f, rfl⟩), g, fun u => rfl⟩
  | opn k q f =>
    obtain ⟨hq, ⟨_, u, e⟩ | ⟨_, u, e⟩⟩ := g
    · exact absurd (List.cons.inj e).1.symm hq.x
    · exact absurd (List.cons.inj e).1.symm hq.x
  | cls k =>
    obtain ⟨q, hq, ⟨_, u, e⟩ | ⟨_, u, e⟩⟩ := g
    · exact absurd (List.cons.inj e).1.symm hq.x
    · exact absurd (List.cons.inj e).1.symm hq.x
theorem take_nl {q w : Nat} {t : List Nat} (hq : Quo q) : ¬ (10 :: t).take (w + 1) = List.replicate (w + 1) q := fun e => hq.nl (List.cons.inj e).1.symm
theorem step_nl {m : Mode} {t : List Nat} {s : St} (g : Fit m (10 :: t)) : ∃ m' s', (∀ u, step m 10 u s = (m', s')) ∧
    ((m' = .code false ∧ s' = s.nl) ∨ (m' = .code true ∧ s' = s.joint) ∨ ∃ q w f, m' = .str q w f ∧ s' = s.joint) := by
  cases m with
  | code j => exact ⟨_, _, fun _ => rfl, .inl ⟨rfl, rfl⟩⟩
  | com => exact ⟨_, _, fun _ => rfl, .inl ⟨rfl, rfl⟩⟩
  | bs => exact ⟨_, _, fun _ => rfl, .inr (.inl ⟨rfl, rfl⟩)⟩
  | str q w f =>
    have e : ∀ u, step (.str q w f) 10 u s = if w = 0 then (.code false, s.nl) else (.str q w f, s.joint) := fun u => by
      dsimp only [step]
      rw [if_neg (by decide), if_neg (take_nl g.1), if_pos rfl]
    rcases g.2 with rfl | rfl
    · exact ⟨_, _, e, .inl ⟨rfl, rfl⟩⟩
    · exact ⟨_, _, e, .inr (.inr ⟨q, 2, f, rfl, rfl⟩)⟩
  | sbs q w f => exact ⟨_, _, fun _ => rfl, .inr (.inr ⟨q, w, f, rfl, rfl⟩)⟩
  | opn k q f =>
    obtain ⟨hq, ⟨_, u, e⟩ | ⟨_, u, e⟩⟩ := g
    · exact absurd (List.cons.inj e).1.symm hq.nl
    · exact absurd (List.cons.inj e).1.symm hq.nl
  | cls k =>
    obtain ⟨q, hq, ⟨_, u, e⟩ | ⟨_, u, e⟩⟩ := g
    · exact absurd (List.cons.inj e).1.symm hq.nl
    · exact absurd (List.cons.inj e).1.symm hq.nl
theorem Fit.head {m : Mode} {c : Nat} {t u : List Nat} (hc : ¬ Quo c) (g : Fit m (c :: t)) : Fit m (c :: u) := by
  cases m with
  | opn k q f =>
    obtain ⟨hq, ⟨_, u, e⟩ | ⟨_, u, e⟩⟩ := g
    · exact absurd ((List.cons.inj e).1 ▸ hq) hc
    · exact absurd ((List.cons.inj e).1 ▸ hq) hc
  | cls k =>
    obtain ⟨q, hq, ⟨_, u, e⟩ | ⟨_, u, e⟩⟩ := g
    · exact absurd ((List.cons.inj e).1 ▸ hq) hc
    · exact absurd ((List.cons.inj e).1 ▸ hq) hc
  | _ => exact g
theorem Sim.run {t t' : List Nat} (h : Sim t t') : ∀ {m : Mode} {s : St}, Fit m t → run m t s = run m t' s := by
  induction h with
  | nil => intro m s g; rfl
  | @cons c t t' h ih =>
    intro m s g
    rw [run_cons, run_cons, h.step g]
    exact ih (h.step g ▸ g.step)
  | @x t t' h ih =>
    intro m s g
    obtain ⟨m', e, _, g', r⟩ := step_x (t := 120 :: t) (s := s) g
    rw [run_cons, e]
    have hh := h.head
    cases t' with
    | nil => cases hh
    | cons b t' =>
      cases hh
      rw [← r t']
      exact ih (g'.head (by rintro (q | q) <;> cases q))
  | @nl t t' hn h ih =>
    intro m s g
    have g' : Fit m (10 :: t) := g.head (by rintro (q | q) <;> cases q)
    obtain ⟨m', s', e, hm⟩ := step_nl (s := s) g'
    rw [← ih g', run_cons, e, run_cons, run_cons m 10 t, e]
    rcases hm with ⟨rfl, rfl⟩ | ⟨rfl, rfl⟩ | ⟨q, w, f, rfl, rfl⟩
    · rfl
    · exact (run_j hn).symm
    · rfl
noncomputable def glue (y : List Nat) : List (List Nat) → List Nat
  | [] => []
  | [p] => p
  | p :: r => p ++ y ++ glue y r
theorem join_glue (y : List Nat) : ∀ ps : List Str, (Str.join (S y) ps).cps.toList = glue y (ps.map (·.cps.toList))
  | [] => rfl
  | [p] => rfl
  | p :: q :: r => by
    show (p ++ S y ++ Str.join (S y) (q :: r)).cps.toList = p.cps.toList ++ y ++ glue y (q.cps.toList :: r.map (·.cps.toList))
    rw [Str.cps_append, Array.toList_append, join_glue y (q :: r), Str.cps_append, Array.toList_append, S_cps]
    rfl
theorem replace_glue (l y z : List Nat) (hy : y ≠ []) : ∃ ps, glue y ps = l ∧ Txt.replace (S l) (S y) (S z) = S (glue z ps) := by
  have hl : ((S y).length == 0) = false := by rw [S_len]; cases y with | nil => exact absurd rfl hy | cons a b => rfl
  unfold Txt.replace
  rw [hl, Bool.false_and, Bool.or_false]
  by_cases he : (Builtin.Str.occurrences (S l) (S y) 0 (S l).length ((S l).length + 1)).isEmpty = true
  · rw [if_pos he]; exact ⟨[l], rfl, rfl⟩
  · rw [if_neg he]
    obtain ⟨f, h⟩ := StrLaws.occ_chain (S l) (S y) ((S l).length + 1)
    have e := StrLaws.join_partsFrom (S l) (S y) _ 0 f h
    rw [StrLaws.sub_whole] at e
    rw [StrLaws.partsBetween_eq, StrLaws.glued_eq_join]
    refine ⟨_, (join_glue y _).symm.trans ((congrArg (fun x : Str => x.cps.toList) e).trans (S_cps l)), ?_⟩
    rw [← join_glue, S_of]
theorem sim_xs : ∀ (k : Nat) {t t' : List Nat}, Sim t t' → Sim (List.replicate (k + 1) 120 ++ t) (120 :: t')
  | 0, _, _, h => .cons _ h
  | k + 1, _, _, h => .x (sim_xs k h)
theorem sim_glue_x (k : Nat) : ∀ ps, Sim (glue (List.replicate (k + 1) 120) ps) (glue [120] ps)
  | [] => .nil
  | [p] => .refl _
  | p :: q :: r => by
    show Sim (p ++ List.replicate (k + 1) 120 ++ glue _ (q :: r)) (p ++ [120] ++ glue _ (q :: r))
    rw [List.append_assoc, List.append_assoc]
    exact .app _ (sim_xs k (sim_glue_x k (q :: r)))
theorem sim_glue_nl : ∀ ps, (glue [10, 120] ps = [] ∨ (glue [10, 120] ps).getLast? = some 10) → Sim (glue [10, 120] ps) (glue [10] ps)
  | [], _ => .nil
  | [p], _ => .refl _
  | p :: q :: r, h => by
    change p ++ [10, 120] ++ glue _ (q :: r) = [] ∨ (p ++ [10, 120] ++ glue _ (q :: r)).getLast? = some 10 at h
    show Sim (p ++ [10, 120] ++ glue _ (q :: r)) (p ++ [10] ++ glue _ (q :: r))
    rw [List.append_assoc] at h ⊢
    rw [List.append_assoc]
    have hg : glue [10, 120] (q :: r) ≠ [] ∧ (glue [10, 120] (q :: r)).getLast? = some 10 := by
      cases hg : glue [10, 120] (q :: r) with
      | nil => rw [hg] at h; simp at h
      | cons a u =>
        rw [hg] at h
        refine ⟨List.cons_ne_nil _ _, ?_⟩
        rcases h with h | h
        · simp at h
        · rw [List.getLast?_append] at h
          simpa [List.getLast?_cons_cons] using h
    exact .app _ (.nl hg.1 (.cons _ (sim_glue_nl (q :: r) (.inr hg.2))))
noncomputable def Ends (l : List Nat) : Prop := l = [] ∨ l.getLast? = some 10
theorem Sim.ends {t t' : List Nat} (h : Sim t t') (e : Ends t) : Ends t' := by
  rcases e with rfl | e
  · cases h; exact .inl rfl
  · exact .inr (h.last ▸ e)
theorem rep_x (l : List Nat) (k : Nat) : ∃ r, Txt.replace (S l) (S (List.replicate (k + 1) 120)) (S [120]) = S r ∧ Sim l r := by
  obtain ⟨ps, rfl, e⟩ := replace_glue l (List.replicate (k + 1) 120) [120] (by simp [List.replicate_succ])
  exact ⟨_, e, sim_glue_x k ps⟩
theorem rep_nl (l : List Nat) (h : Ends l) : ∃ r, Txt.replace (S l) (S [10, 120]) (S [10]) = S r ∧ Sim l r := by
  obtain ⟨ps, rfl, e⟩ := replace_glue l [10, 120] [10] (by simp)
  exact ⟨_, e, sim_glue_nl ps h⟩
theorem step_st (m : Mode) (c : Nat) (t : List Nat) (s : St) : (step m c t s).2 = s ∨ (step m c t s).2 = s.nl ∨ (step m c t s).2 = s.joint ∨ (step m c t s).2 = s.up ∨ (step m c t s).2 = s.down := by
  cases m <;> dsimp only [step] <;> (repeat' split) <;> simp
theorem fin_ok : ∀ (t : List Nat) {m : Mode} {s : St} {g : Nat}, Fit m t → t.getLast? = some 10 → s.good.getLast? = some g → g ≤ s.lno →
    ∃ g', (run m t s).2.good.getLast? = some g' ∧ (kindOf (run m t s) = 0 ↔ g' = (run m t s).2.lno)
  | [], _, _, _, _, h, _, _ => by cases h
  | [c], m, s, g, F, h, hg, hl => by
    have : c = 10 := by simpa using h
    subst this
    obtain ⟨m', s', e, hm⟩ := step_nl (s := s) F
    rw [run_cons, e]
    rcases hm with ⟨rfl, rfl⟩ | ⟨rfl, rfl⟩ | ⟨q, w, f, rfl, rfl⟩
    · show ∃ g', s.nl.good.getLast? = some g' ∧ (kindOf (.code false, s.nl) = 0 ↔ g' = s.lno + 1)
      by_cases h0 : s.lvl = 0
      · refine ⟨s.lno + 1, ?_, ⟨fun _ => rfl, fun _ => ?_⟩⟩
        · unfold St.nl; rw [if_pos h0]; exact List.getLast?_concat
        · simp [kindOf, St.nl, h0]
      · refine ⟨g, ?_, ⟨fun q => ?_, fun q => by lia⟩⟩
        · unfold St.nl; rw [if_neg h0]; exact hg
        · have : 0 < s.nl.lvl := Nat.pos_of_ne_zero h0
          simp [kindOf, this] at q
    · refine ⟨g, hg, ⟨fun q => ?_, fun q => ?_⟩⟩
      · change (if 0 < s.lvl then 4 else 1) = 0 at q
        split at q <;> cases q
      · change g = s.lno + 1 at q; lia
    · refine ⟨g, hg, ⟨fun q => ?_, fun q => ?_⟩⟩
      · change (if s.lno + 1 = f + 1 then 2 else 3) = 0 at q
        split at q <;> cases q
      · change g = s.lno + 1 at q; lia
  | c :: d :: t, m, s, g, F, h, hg, hl => by
    rw [List.getLast?_cons_cons] at h
    rw [run_cons]
    have hs : ∃ g', (step m c (d :: t) s).2.good.getLast? = some g' ∧ g' ≤ (step m c (d :: t) s).2.lno := by
      have key : ∀ s' : St, (s' = s ∨ s' = s.nl ∨ s' = s.joint ∨ s' = s.up ∨ s' = s.down) → ∃ g', s'.good.getLast? = some g' ∧ g' ≤ s'.lno := by
        rintro s' (rfl | rfl | rfl | rfl | rfl)
        · exact ⟨g, hg, hl⟩
        · by_cases h0 : s.lvl = 0
          · exact ⟨s.lno + 1, by unfold St.nl; rw [if_pos h0]; exact List.getLast?_concat, Nat.le_refl _⟩
          · exact ⟨g, by unfold St.nl; rw [if_neg h0]; exact hg, Nat.le_succ_of_le hl⟩
        · exact ⟨g, hg, Nat.le_succ_of_le hl⟩
        · exact ⟨g, hg, hl⟩
        · exact ⟨g, hg, hl⟩
      exact key _ (step_st m c (d :: t) s)
    obtain ⟨g', h1, h2⟩ := hs
    exact fin_ok (d :: t) F.step h h1 h2
theorem fin_read {l : List Nat} (h : Ends l) : ∃ g, (run (.code false) l init).2.good.getLast? = some g ∧ (kindOf (run (.code false) l init) = 0 ↔ g = (run (.code false) l init).2.lno) := by
  rcases h with rfl | h
  · exact ⟨0, rfl, ⟨fun _ => rfl, fun _ => rfl⟩⟩
  · exact fin_ok l trivial h rfl (Nat.le_refl _)
section
variable {C : Cx} {A : Around} {env : Env} {R : Led} {Φ : V → Led → Prop} {pos : Pos}
theorem Ev.neg {x : Expr} (h : Ev C A env x R fun v R₁ => ∃ i, v = .int i ∧ Φ (.int (-i)) R₁) : Ev C A env (.UnaryOp .USub x pos) R Φ := fun z s H t =>
  wpAny_UnaryOp (h.then H t fun z₁ R₁ v u s₁ e₁ H₁ t₁ d₁ ⟨i, e, p⟩ => by
    subst e; obtain ⟨_, rfl⟩ := d₁.intI
    exact neg_int ⟨z₁, R₁, _, e₁, H₁.toks _, .int _ _, p⟩)
theorem Cmp.eqB {a b : Bool} {Φ : Bool → Led → Prop} (h : Φ (a == b) R) : Cmp C A .Eq (.bool a) (.bool b) R Φ := fun z s u v H t d e => by obtain rfl := d.boolI; obtain rfl := e.boolI; exact eq_bool (bp H h)
theorem LstOf.at {g : Addr} {vs : List V} (h : (g, .list vs) ∈ R) : LstOf R (.ref g) vs := .ref h
end
structure PKit (C : Cx) (K : Frag) (c : Addr) : Prop where
  X : K.In C.B
  sa : findIn K (.ref c) "__setattr__" = some (some (.builtin "object.__setattr__"))
  ov : plainOver K c = true
  hd : hasDictIn K c = true
  at_ : ∀ n ∈ (["study_level", "code", "goodlines", "continuation", "indentwidth", "tabwidth"] : List Str), plainGet K c n = true ∧ findIn K (.ref c) n = some Option.none ∧ takerIn K c n = some Option.none
section
variable {C : Cx} {A : Around} {env : Env} {R : Led} {Φ : V → Led → Prop} {pos : Pos} {K : Frag} {c : Addr}
theorem PKit.get (P : PKit C K c) {x : Str} {xp : Pos} {name : Str} {a dx : Addr} {m : List (Str × V)} {v : V}
    (hn : name ∈ (["study_level", "code", "goodlines", "continuation", "indentwidth", "tabwidth"] : List Str))
    (h : Ev C A env (.Name x xp) R fun o R₁ => o = .ref a ∧ (a, .obj (instObj c dx)) ∈ R₁ ∧ (dx, .att m) ∈ R₁ ∧ (name, v) ∈ m ∧ Φ v R₁) (hv : v.isBi = false := by rfl)
    (he : eval (.Attribute (.Name x xp) name pos) env = (do
      let o ← eval (.Name x xp) env
      standAt pos.atName
      let r ← holding [o] (getAttr o name true)
      letTemporaryGo (.Name x xp) o r
      pure r) := by with_unfolding_all rfl) : Ev C A env (.Attribute (.Name x xp) name pos) R Φ :=
  Ev.attr P.X h (P.at_ _ hn).1 P.hd (P.at_ _ hn).2.1 hv he
theorem PKit.set (P : PKit C K c) {o : Expr} {name : Str} {a dx : Addr} {m m' : List (Str × V)} {v : V} {R' : Led} {Φ : Led → Prop}
    (hn : name ∈ (["study_level", "code", "goodlines", "continuation", "indentwidth", "tabwidth"] : List Str))
    (h : Ev C A env o R fun ov R₁ => ov = .ref a ∧ (a, .obj (instObj c dx)) ∈ R₁ ∧ (dx, .att m) ∈ R₁ ∧ PutA m name v m' ∧ Upd R₁ dx (.att m) (.att m') R' ∧ Φ R') (hz : m'.length ≤ 1000 := by exact Nat.le_of_ble_eq_true rfl) : As C A env (.Attribute o name pos) v R Φ :=
  As.attr P.X h P.sa P.ov (P.at_ _ hn).2.2 P.hd hz
end
noncomputable abbrev attS (iw tw : V) (l : List Nat) (lev : Int) (ext : List (Str × V)) : List (Str × V) := ("indentwidth", iw) :: ("tabwidth", tw) :: ("code", .str (S l)) :: ("study_level", .int lev) :: ext
noncomputable def Told (ext : List (Str × V)) : Prop := ext = [] ∨ ∃ u v : V, ext = [(("goodlines" : Str), u), (("continuation" : Str), v)]
theorem Told.put {ext : List (Str × V)} (h : Told ext) (iw tw : V) (l : List Nat) (lev : Int) (v : V) : ∃ ext1, ext1.length ≤ 2 ∧ PutA (attS iw tw l lev ext) "goodlines" v (attS iw tw l lev ext1) ∧
    ∀ w, PutA (attS iw tw l lev ext1) "continuation" w (attS iw tw l lev [("goodlines", v), ("continuation", w)]) := by
  rcases h with rfl | ⟨u, w, rfl⟩
  · exact ⟨[("goodlines", v)], Nat.le_succ _, .new (m := attS iw tw l lev []) (by simp; decide), fun w => .new (m := attS iw tw l lev [("goodlines", v)]) (by simp; decide)⟩
  · exact ⟨[("goodlines", v), ("continuation", w)], Nat.le_refl _, .old (.there (.there (.there (.there .here)))), fun w => .old (.there (.there (.there (.there (.there .here)))))⟩
theorem lit_x8 : Str.ofString "xxxxxxxx" = S (List.replicate (7 + 1) 120) := by decide
theorem lit_x4 : Str.ofString "xxxx" = S (List.replicate (3 + 1) 120) := by decide
theorem lit_x2 : Str.ofString "xx" = S (List.replicate (1 + 1) 120) := by decide
theorem lit_nx : Str.ofString "\nx" = S [10, 120] := by decide
theorem kind_of (p : Mode × St) : (kindOf p : Int) = if (ctOf p : Int) ≠ 2 ∧ (ctOf p : Int) ≠ 3 ∧ (p.2.lvl : Int) > 0 then 4 else (ctOf p : Int) := by
  obtain ⟨m, s⟩ := p
  by_cases h : 0 < s.lvl
  · cases m with
    | str q w f =>
      have e : kindOf (.str q w f, s) = ctOf (.str q w f, s) := rfl
      rw [e, if_neg]
      rintro ⟨h1, h2, _⟩
      by_cases h3 : s.lno = f + 1
      · exact h1 (by simp [ctOf, h3])
      · exact h2 (by simp [ctOf, h3])
    | code j => cases j <;> simp [kindOf, ctOf, h]
    | _ => simp [kindOf, ctOf, h]
  · have h0 : ¬ (s.lvl : Int) > 0 := by lia
    rw [if_neg fun q => h0 q.2.2]
    cases m with
    | str q w f => rfl
    | code j => simp [kindOf, ctOf, h]
    | _ => simp [kindOf, ctOf, h]
section
variable {C : Cx} {A : Around} {R : Led} {mg mb : Str → Option Value} {K : Frag} {Φ : V → Led → Prop} {pm cd : Value} {L x dx c f tb : Addr} {l : List Nat} {iw tw : V} {ext : List (Str × V)}
theorem getLast_V {g : List Nat} {a : Nat} (h : g.getLast? = some a) : (g.map (fun n : Nat => V.int n))[((-1 : Int) + ((g.map (fun n : Nat => V.int n)).length : Int)).toNat]? = some (.int a) ∧ g ≠ [] := by
  rw [List.getLast?_eq_getElem?] at h
  have hl : g.length - 1 < g.length := by
    rcases Nat.lt_or_ge (g.length - 1) g.length with q | q
    · exact q
    · rw [List.getElem?_eq_none q] at h; cases h
  refine ⟨?_, fun e => by subst e; simp at hl⟩
  rw [List.length_map, show ((-1 : Int) + (g.length : Int)).toNat = g.length - 1 by lia, List.getElem?_map, h]; rfl
set_option maxHeartbeats 1000000 in
theorem study_end {q g : Addr} {ii : Int} {m : Mode} {st : St} {txt : Str} {ext1 : List (Str × V)} (G : GX C mg mb) (N : GInts mg) (P : PKit C K c)
    (hp : ∀ w, PutA (attS iw tw l 1 ext1) "continuation" w (attS iw tw l 1 [("goodlines", .ref g), ("continuation", w)])) (hlen : st.good.length ≤ 100001)
    {gl : Nat} (hg : st.good.getLast? = some gl) (hk : kindOf (m, st) = 0 ↔ gl = st.lno)
    (h : Φ .none ((g, .list ((goodOf (m, st)).map (fun n : Nat => V.int n))) :: (x, .obj (instObj c dx)) :: (dx, .att (attS iw tw l 1 [("goodlines", .ref g), ("continuation", .int (kindOf (m, st)))])) :: R)) :
    Ex C A (fenv (fdOf "Parser._study1" pm cd sStudy) f L) ((fnB sStudy).drop 15) (RL q g L x txt ii st.lvl st.lno (ctOf (m, st)) (st.good.map (fun n : Nat => V.int n)) ((x, .obj (instObj c dx)) :: (dx, .att (attS iw tw l 1 ext1)) :: R)) (Back Φ) := by
  obtain ⟨t0, e0⟩ := N.c0
  obtain ⟨t2, e2⟩ := N.c2
  obtain ⟨t3, e3⟩ := N.c3
  obtain ⟨t4, e4⟩ := N.c4
  obtain ⟨hgl, hne⟩ := getLast_V hg
  have hlp : 0 < st.good.length := List.length_pos_iff.mpr hne
  have rest : ∀ k : Int, k = kindOf (m, st) → Ex C A (fenv (fdOf "Parser._study1" pm cd sStudy) f L) ((fnB sStudy).drop 16) (RL q g L x txt ii st.lvl st.lno k (st.good.map (fun n : Nat => V.int n)) ((x, .obj (instObj c dx)) :: (dx, .att (attS iw tw l 1 ext1)) :: R)) (Back Φ) := by
    rintro k rfl
    refine Ex.cons (Ex1.assignA ?_)
    walk_at "nm"
    refine P.set (a := x) (dx := dx) (by decide) (Ev.loc (by walk_at "mem") (by walk_at "mem") ⟨rfl, by walk_at "mem", by walk_at "mem", hp _, by walk_at "upd", ?_⟩)
    refine Ex.cons (Ex1.assert (Ts.cmp (Ev.cmp ?_)))
    walk_at "nm"
    refine Ev.glob G e0 (fun _ => .int _ _) (Cmp.eqI (Ev.cmp (Ev.item ?_)))
    walk_at "nm"
    refine Ev.neg (Ev.int ⟨1, rfl, Itm.lstN (LstOf.at (by walk_at "mem")) (by decide) (by rw [List.length_map]; lia) hgl ?_ (by decide)⟩)
    walk_at "nm"
    refine Cmp.eqI (Cmp.eqB ⟨?_, ?_⟩)
    · have e1 : (((kindOf (m, st) : Nat) : Int) == 0) = decide (kindOf (m, st) = 0) := by rw [Bool.eq_iff_iff]; simp
      have e2 : ((gl : Int) == (st.lno : Int)) = decide (gl = st.lno) := by rw [Bool.eq_iff_iff]; simp; lia
      rw [e1, e2]; simp [hk]
    refine Ex.cons (Ex1.ite (Ts.cmp (Ev.item ?_)))
    walk_at "nm"
    refine Ev.neg (Ev.int ⟨1, rfl, Itm.lstN (LstOf.at (by walk_at "mem")) (by decide) (by rw [List.length_map]; lia) hgl ?_ (by decide)⟩)
    walk_at "nm"
    refine Cmp.neI (ite_b (fun h1 => ?_) fun h1 => ?_)
    · have h1 : gl ≠ st.lno := fun e => by subst e; simp at h1
      have hgo : goodOf (m, st) = st.good ++ [st.lno] := by
        unfold goodOf; rw [if_neg (by rw [hg]; exact fun e => h1 (Option.some.inj e))]
      rw [hgo, List.map_append] at h
      refine Ex.cons (Ex1.expr (Ev.callN ?_))
      walk_at "nm"
      refine EvL.cons ?_
      walk_at "nm"
      refine EvL.nil ⟨Kpr.app (by walk_at "mem"), Cl.app (by walk_at "mem") (by walk_at "upd") (by rw [List.length_map]; lia) ⟨rfl, ?_⟩⟩
      refine Ex.nil (Ex.nil ⟨_, ?_, h⟩)
      exact .drop (.same (.drop .rest))
    · have h1 : gl = st.lno := by
        by_cases e : gl = st.lno
        · exact e
        · exfalso; simp at h1; lia
      have hgo : goodOf (m, st) = st.good := by
        unfold goodOf; rw [if_pos (by rw [hg, h1])]
      rw [hgo] at h
      refine Ex.nil (Ex.nil ⟨_, ?_, h⟩)
      exact .drop (.same (.drop .rest))
  have hkd := kind_of (m, st)
  refine Ex.cons (Ex1.ite (Ts.and (Ts.cmp ?_)))
  walk_at "nm"
  refine Ev.glob G e2 (fun _ => .int _ _) (Cmp.neI (ite_b (fun h1 => ?_) fun h1 => ?_))
  · refine Ts.and (Ts.cmp ?_)
    walk_at "nm"
    refine Ev.glob G e3 (fun _ => .int _ _) (Cmp.neI (ite_b (fun h2 => ?_) fun h2 => ?_))
    · refine Ts.and (Ts.cmp ?_)
      walk_at "nm"
      refine Ev.int (Cmp.gtI (ite_b (fun h3 => ?_) fun h3 => ?_))
      · refine Ts.and_nil ?_
        refine Ex.cons (Ex1.assign (Ev.glob G e4 (fun _ => .int _ _) ?_))
        walk_at "sto"
        exact Ex.nil (rest 4 (by rw [hkd, if_pos ⟨by simpa using h1, by simpa using h2, by simpa using h3⟩]))
      · exact Ex.nil (rest _ (by rw [hkd, if_neg fun q => of_decide_eq_false h3 q.2.2]))
    · exact Ex.nil (rest _ (by rw [hkd, if_neg fun q => q.2.1 (by simpa using h2)]))
  · exact Ex.nil (rest _ (by rw [hkd, if_neg fun q => q.1 (by simpa using h1)]))
end
noncomputable def sMiss : Stmt := stAt 0 (clsB (stAt 10 PySem.Challenge.pw_dm0164_12.main.body))
noncomputable def scB : Stmt → Scope
  | .FunctionDef _ _ _ _ _ _ scope _ _ _ => scope
  | _ => default
noncomputable abbrev okNames (ns : List Str) (st : Stmt) : Prop := (∀ x ∈ (scB st).names, x.2 ≠ .cell) ∧ ∀ x ∈ ns, (scB st).names.lookup x = some .local
theorem fd_scope (q : Str) (pm cd : Value) (st : Stmt) : (fdOf q pm cd st).scope = scB st := by cases st <;> rfl
noncomputable def sInit : Stmt := stAt 0 sParser
noncomputable def sSet : Stmt := stAt 1 sParser
section
variable {C : Cx} {A : Around} {R : Led} {mg mb : Str → Option Value} {K : Frag} {Φ : V → Led → Prop} {pm cd : Value} {x dx c f tb : Addr} {l : List Nat} {iw tw : V} {ext : List (Str × V)}
theorem rep8 (l : List Nat) : ∃ r, Txt.replace (S l) "xxxxxxxx" "x" = S r ∧ Sim l r := by rw [lit_x8, lit_x]; exact rep_x l 7
theorem rep4 (l : List Nat) : ∃ r, Txt.replace (S l) "xxxx" "x" = S r ∧ Sim l r := by rw [lit_x4, lit_x]; exact rep_x l 3
theorem rep2 (l : List Nat) : ∃ r, Txt.replace (S l) "xx" "x" = S r ∧ Sim l r := by rw [lit_x2, lit_x]; exact rep_x l 1
theorem repn (l : List Nat) (h : Ends l) : ∃ r, Txt.replace (S l) "\nx" "\n" = S r ∧ Sim l r := by rw [lit_nx, lit_nl]; exact rep_nl l h
theorem Sto.is {env : Env} {x a b : Str} {Φ : Led → Prop} (e : a = b) (h : Sto C A env x (.str b) R Φ) : Sto C A env x (.str a) R Φ := e ▸ h
theorem run_len : ∀ (t : List Nat) (m : Mode) (s : St), (run m t s).2.good.length ≤ s.good.length + t.length
  | [], _, _ => Nat.le_refl _
  | c :: t, m, s => by
    have h : (step m c t s).2.good.length ≤ s.good.length + 1 := by
      have key : ∀ s' : St, (s' = s ∨ s' = s.nl ∨ s' = s.joint ∨ s' = s.up ∨ s' = s.down) → s'.good.length ≤ s.good.length + 1 := by
        rintro s' (rfl | rfl | rfl | rfl | rfl)
        · exact Nat.le_succ _
        · unfold St.nl; dsimp only; split
          · rw [List.length_append]; exact Nat.le_refl _
          · exact Nat.le_succ _
        · exact Nat.le_succ _
        · exact Nat.le_succ _
        · exact Nat.le_succ _
      exact key _ (step_st m c t s)
    have := run_len t (step m c t s).1 (step m c t s).2
    rw [run_cons, List.length_cons]
    lia
theorem item_end {l : List Nat} {c : Nat} (h : l.getLast? = some c) : Txt.item (S l) (-1) = S [c] := by
  rw [List.getLast?_eq_getElem?] at h
  have hl := lt_of_get h
  unfold Txt.item Txt.charAt
  rw [StrLaws.at_neg (x := S l) (n := c) (by decide) (by rw [S_len]; lia) (by rw [S_len, show ((-1 : Int) + (l.length : Int)).toNat = l.length - 1 by lia]; simpa [S] using h)]
  rfl
theorem FnAt.call {st : Stmt} {q : Str} {f : Addr} {ns r : List Str} {vs : List V} {m : List (Str × V)} (G : GX C mg mb) (F : FnAt C f (fdOf q pm cd st) (fnB st) ns) (b : Bnd ns vs r m) (hn : (ns ++ r).Nodup) (hd : A.depth < recursionLimit) (hk : okNames ns st)
    (h : ∀ L, Ex C (A.deeper (fenv (fdOf q pm cd st) f L)) (fenv (fdOf q pm cd st) f L) (fnB st) ((L, .ns m) :: R) (Back Φ)) : ClC C A (.ref f) vs R Φ :=
  ClC.fn G F b hn hd (by rw [fd_scope]; exact hk.1) (by rw [fd_scope]; exact hk.2) h
theorem missing_ok {fm : Addr} {i : Int} (G : GX C mg mb) (F : FnAt C fm (fdOf "ParseMap.__missing__" pm cd sMiss) (fnB sMiss) ["self", "key"]) (hd : A.depth < recursionLimit) :
    Cl C A (.ref fm) [.ref tb, .int i] R (fun v R' => v = .int 120 ∧ R' = R) :=
  ClC.cl (F.call (r := []) G (.cons (.cons .nil)) (by decide) hd (by decide) fun L => Ex.cons (Ex1.ret (Ev.int ⟨_, .drop .rest, rfl, rfl⟩)))
structure Kit (C : Cx) (mg mb : Str → Option Value) (K : Frag) (c fI fC fS tb : Addr) : Prop where
  G : GX C mg mb
  N : GInts mg
  len : mg "len" = none
  P : PKit C K c
  trans : mg "trans" = some (.ref tb)
  tab : ∃ cls dx fm es fd body, TabAt C K tb cls dx fm es fd body ∧ (∀ c v, tabVal es c = some v → ∃ i u, v = .int i u) ∧ (∀ c : Nat, (match tabVal es c with | some (.int i _) => i | _ => 120) = (tr c : Int)) ∧
    ∃ pm cd, FnAt C fm (fdOf "ParseMap.__missing__" pm cd sMiss) (fnB sMiss) ["self", "key"]
  ini : ∃ pm cd, FnAt C fI (fdOf "Parser.__init__" pm cd sInit) (fnB sInit) ["self", "indentwidth", "tabwidth"]
  code : ∃ pm cd, FnAt C fC (fdOf "Parser.set_code" pm cd sSet) (fnB sSet) ["self", "s"]
  study : ∃ pm cd, FnAt C fS (fdOf "Parser._study1" pm cd sStudy) (fnB sStudy) ["self"]
theorem Kit.made {fI fC fS : Addr} (Z : Kit C mg mb K c fI fC fS tb) (hd : A.depth < recursionLimit) (h : Φ .none ((x, .obj (instObj c dx)) :: (dx, .att [("indentwidth", iw), ("tabwidth", tw)]) :: R)) (h1 : iw.isAny = false := by rfl) (h2 : tw.isAny = false := by rfl) :
    ClC C A (.ref fI) [.ref x, iw, tw] ((x, .obj (instObj c dx)) :: (dx, .att []) :: R) Φ := by
  obtain ⟨pm, cd, F⟩ := Z.ini
  refine F.call (r := []) Z.G (.cons (.cons (.cons .nil))) (by decide) hd (by decide) fun L => ?_
  refine Ex.cons (Ex1.assignA (Ev.loc (by walk_at "mem") (by walk_at "mem") ?_ h1))
  refine Z.P.set (a := x) (dx := dx) (m' := [("indentwidth", iw)]) (by decide) (Ev.loc (by walk_at "mem") (by walk_at "mem") ⟨rfl, by walk_at "mem", by walk_at "mem", .new (m := []) (show ("indentwidth" : Str) ∉ ([] : List Str) by decide), by walk_at "upd", ?_⟩)
  refine Ex.cons (Ex1.assignA (Ev.loc (by walk_at "mem") (by walk_at "mem") ?_ h2))
  refine Z.P.set (a := x) (dx := dx) (m' := [("indentwidth", iw), ("tabwidth", tw)]) (by decide) (Ev.loc (by walk_at "mem") (by walk_at "mem") ⟨rfl, by walk_at "mem", by walk_at "mem", .new (m := [("indentwidth", iw)]) (show ("tabwidth" : Str) ∉ (["indentwidth"] : List Str) by decide), by walk_at "upd", ?_⟩)
  exact Ex.nil ⟨_, .drop .rest, h⟩
theorem Kit.put {fI fC fS : Addr} {m : List (Str × V)} (Z : Kit C mg mb K c fI fC fS tb) (hd : A.depth < recursionLimit) (hl : Ends l) (hx : l.length ≤ 100000)
    (hm : (m = [(("indentwidth" : Str), iw), (("tabwidth" : Str), tw)] ∧ ext = []) ∨ ∃ l₀ lev, m = attS iw tw l₀ lev ext ∧ ext.length ≤ 2)
    (h : Φ .none ((x, .obj (instObj c dx)) :: (dx, .att (attS iw tw l 0 ext)) :: R)) :
    Cl C A (.ref fC) [.ref x, .str (S l)] ((x, .obj (instObj c dx)) :: (dx, .att m) :: R) Φ := by
  obtain ⟨pm, cd, F⟩ := Z.code
  have hput : ∃ m1, PutA m "code" (.str (S l)) m1 ∧ m1.length ≤ 1000 ∧ PutA m1 "study_level" (.int 0) (attS iw tw l 0 ext) ∧ (attS iw tw l 0 ext).length ≤ 1000 := by
    rcases hm with ⟨rfl, rfl⟩ | ⟨l₀, lev, rfl, he⟩
    · exact ⟨_, .new (show ("code" : Str) ∉ (["indentwidth", "tabwidth"] : List Str) by decide), Nat.le_of_ble_eq_true rfl, .new (show ("study_level" : Str) ∉ (["indentwidth", "tabwidth", "code"] : List Str) by decide), Nat.le_of_ble_eq_true rfl⟩
    · have : (attS iw tw l lev ext).length ≤ 1000 := by show ext.length + 4 ≤ 1000; lia
      exact ⟨attS iw tw l lev ext, .old (.there (.there .here)), this, .old (.there (.there (.there .here))), this⟩
  obtain ⟨m1, p1, p0, p2, p3⟩ := hput
  refine ClC.cl (F.call (r := []) Z.G (.cons (.cons .nil)) (by decide) hd (by decide) fun L => ?_)
  have hrest : Ex C (A.deeper (fenv (fdOf "Parser.set_code" pm cd sSet) fC L)) (fenv (fdOf "Parser.set_code" pm cd sSet) fC L) ((fnB sSet).drop 1) ((L, .ns [("self", .ref x), ("s", .str (S l))]) :: (x, .obj (instObj c dx)) :: (dx, .att m) :: R) (Back Φ) := by
    refine Ex.cons (Ex1.assignA ?_)
    walk_at "nm"
    refine Z.P.set (a := x) (dx := dx) (by decide) (Ev.loc (by walk_at "mem") (by walk_at "mem") ⟨rfl, by walk_at "mem", by walk_at "mem", p1, by walk_at "upd", ?_⟩) p0
    refine Ex.cons (Ex1.assignA (Ev.int ?_))
    refine Z.P.set (a := x) (dx := dx) (by decide) (Ev.loc (by walk_at "mem") (by walk_at "mem") ⟨rfl, by walk_at "mem", by walk_at "mem", p2, by walk_at "upd", ?_⟩) p3
    exact Ex.nil ⟨_, .drop .rest, h⟩
  refine Ex.cons (Ex1.assert (Ts.or (Ts.cmp (Ev.callN (Ev.blt Z.G Z.len boot_len (fun _ => .bi _) (EvL.cons ?_))))))
  walk_at "nm"
  refine EvL.nil ⟨Kpr.bi, Cl.lenS (by rw [S_len]; lia) (Ev.int (Cmp.eqI (ite_b (fun h0 => ⟨rfl, hrest⟩) fun h0 => ?_)))⟩
  have h0 : l ≠ [] := fun e => by subst e; exact absurd h0 (by decide)
  have h1 : l.getLast? = some 10 := hl.resolve_left h0
  have hp := List.length_pos_iff.mpr h0
  refine Ts.or (Ts.cmp (Ev.item ?_))
  walk_at "nm"
  refine Ev.neg (Ev.int ⟨1, rfl, Itm.str (by rw [S_len]; lia) (by lia) (by rw [S_len]; lia) (Ev.str (Cmp.eqS ?_))⟩)
  rw [item_end h1, lit_nl, beq_self_eq_true]
  exact ite_t rfl ⟨rfl, hrest⟩
set_option maxHeartbeats 1000000 in
theorem Kit.studied {fI fC fS : Addr} (Z : Kit C mg mb K c fI fC fS tb) (hd : A.depth + 1 < recursionLimit) (hh : A.handled = none) (he : Ends l) (hx : l.length ≤ 100000) (ht : Told ext)
    (h : ∀ g, Φ .none ((g, .list ((goodOf (read l)).map (fun n : Nat => V.int n))) :: (x, .obj (instObj c dx)) :: (dx, .att (attS iw tw l 1 [("goodlines", .ref g), ("continuation", .int (kindOf (read l)))])) :: R)) :
    Cl C A (.ref fS) [.ref x] ((x, .obj (instObj c dx)) :: (dx, .att (attS iw tw l 0 ext)) :: R) Φ := by
  obtain ⟨pm, cd, F⟩ := Z.study
  obtain ⟨cls, dt, fm, es, fd, body, T, hv, htr, pm', cd', FM⟩ := Z.tab
  refine ClC.cl (F.call (r := ["code", "continuation", "level", "lno", "goodlines", "push_good", "i", "n", "ch", "quote", "firstlno", "w"]) Z.G (.cons (.rest (.rest (.rest (.rest (.rest (.rest (.rest (.rest (.rest (.rest (.rest (.rest .nil))))))))))))) (by decide) (Nat.lt_of_succ_lt hd) (by decide) fun L => ?_)
  have hh' : (A.deeper (fenv (fdOf "Parser._study1" pm cd sStudy) fS L)).handled = none := hh
  have hd' : (A.deeper (fenv (fdOf "Parser._study1" pm cd sStudy) fS L)).in1.in1.depth < recursionLimit := hd
  generalize A.deeper (fenv (fdOf "Parser._study1" pm cd sStudy) fS L) = A' at hh' hd' ⊢
  refine Ex.cons (Ex1.ite (Ts.cmp (Z.P.get (a := x) (dx := dx) (by decide) (Ev.loc (by walk_at "mem") (by walk_at "mem") ⟨rfl, by walk_at "mem", by walk_at "mem", by walk_at "mem", ?_⟩))))
  refine Ev.int (Cmp.geI (ite_f (by decide) (Ex.nil ?_)))
  refine Ex.cons (Ex1.assignA (Ev.int ?_))
  refine Z.P.set (a := x) (dx := dx) (m' := attS iw tw l 1 ext) (by decide) (Ev.loc (by walk_at "mem") (by walk_at "mem") ⟨rfl, by walk_at "mem", by walk_at "mem", .old (.there (.there (.there .here))), by walk_at "upd", ?_⟩) (by rcases ht with rfl | ⟨_, _, rfl⟩ <;> exact Nat.le_of_ble_eq_true rfl)
  refine Ex.cons (Ex1.assign (Z.P.get (a := x) (dx := dx) (by decide) (Ev.loc (by walk_at "mem") (by walk_at "mem") ⟨rfl, by walk_at "mem", by walk_at "mem", by walk_at "mem", ?_⟩)))
  walk_at "sto"
  refine Ex.cons (Ex1.assign (Ev.meth (T := "str") ⟨PySem.F.plainAttrs_str, PySem.F.slot_str_translate, PySem.F.type_str_translate⟩ ?_))
  refine Ev.loc (by walk_at "mem") (by walk_at "mem") ⟨TyIs.str, EvL.cons (Ev.glob Z.G Z.trans (fun _ => .ref _) (EvL.nil (Cl.translate (tr := tr) T (fun c _ => missing_ok Z.G FM hd') hv htr tr_lt (by rw [S_len]; lia) ?_)))⟩
  rw [S_cps]
  change Sto _ _ _ _ (.str (S (l.map tr))) _ _
  have r0 : read l = run (.code false) (l.map tr) init := rfl
  have e0 : Ends (l.map tr) := by
    rcases he with rfl | he
    · exact .inl rfl
    · refine .inr ?_
      rw [List.getLast?_map, he]; rfl
  have a0 : ∀ c ∈ l.map tr, Alpha c := fun c hc => by
    obtain ⟨d, _, rfl⟩ := List.mem_map.mp hc
    exact tr_alpha d
  have l0 : (l.map tr).length ≤ 100000 := by rw [List.length_map]; exact hx
  generalize l.map tr = l1 at r0 e0 a0 l0
  walk_at "sto"
  have key : ∀ t t' : List Nat, Sim t t' → (read l = run (.code false) t init ∧ Ends t ∧ (∀ c ∈ t, Alpha c) ∧ t.length ≤ 100000) → (read l = run (.code false) t' init ∧ Ends t' ∧ (∀ c ∈ t', Alpha c) ∧ t'.length ≤ 100000) :=
    fun t t' s ⟨a, b, c, d⟩ => ⟨a.trans (s.run trivial), s.ends b, fun x hx => c x (s.mem x hx), Nat.le_trans s.length d⟩
  have fits : ∀ (t : List Nat) (y : Str), y.length = 1 → t.length ≤ 100000 → (S t).length + ((S t).length + 1) * y.length ≤ 16777216 := fun t y hy ht => by rw [hy, S_len]; lia
  have k1 : read l = run (.code false) l1 init ∧ Ends l1 ∧ (∀ c ∈ l1, Alpha c) ∧ l1.length ≤ 100000 := ⟨r0, e0, a0, l0⟩
  obtain ⟨l2, q2, s2⟩ := rep8 l1
  have k2 := key _ _ s2 k1
  refine Ex.cons (Ex1.assign (Ev.replace (Ev.loc (by walk_at "mem") (by walk_at "mem") ⟨S l1, rfl, fits _ _ rfl k1.2.2.2, ?_⟩)))
  refine Sto.is q2 ?_
  walk_at "sto"
  obtain ⟨l3, q3, s3⟩ := rep4 l2
  have k3 := key _ _ s3 k2
  refine Ex.cons (Ex1.assign (Ev.replace (Ev.loc (by walk_at "mem") (by walk_at "mem") ⟨S l2, rfl, fits _ _ rfl k2.2.2.2, ?_⟩)))
  refine Sto.is q3 ?_
  walk_at "sto"
  obtain ⟨l4, q4, s4⟩ := rep2 l3
  have k4 := key _ _ s4 k3
  refine Ex.cons (Ex1.assign (Ev.replace (Ev.loc (by walk_at "mem") (by walk_at "mem") ⟨S l3, rfl, fits _ _ rfl k3.2.2.2, ?_⟩)))
  refine Sto.is q4 ?_
  walk_at "sto"
  obtain ⟨l5, q5, s5⟩ := rep2 l4
  have k5 := key _ _ s5 k4
  refine Ex.cons (Ex1.assign (Ev.replace (Ev.loc (by walk_at "mem") (by walk_at "mem") ⟨S l4, rfl, fits _ _ rfl k4.2.2.2, ?_⟩)))
  refine Sto.is q5 ?_
  walk_at "sto"
  obtain ⟨l6, q6, s6⟩ := repn l5 k5.2.1
  obtain ⟨r6, e6, a6, n6⟩ := key _ _ s6 k5
  refine Ex.cons (Ex1.assign (Ev.replace (Ev.loc (by walk_at "mem") (by walk_at "mem") ⟨S l5, rfl, fits _ _ rfl k5.2.2.2, ?_⟩)))
  refine Sto.is q6 ?_
  walk_at "sto"
  obtain ⟨t0, g0⟩ := Z.N.c0
  refine Ex.cons (Ex1.assign (Ev.glob Z.G g0 (fun _ => .int _ _) ?_))
  walk_at "sto"
  refine Ex.cons (Ex1.assign2 (Ev.int (As.name ?_)))
  walk_at "sto"
  refine As.name ?_
  walk_at "sto"
  refine Ex.cons (Ex1.assign2 (Ev.listM (EvL.cons (Ev.int (EvL.nil fun g => ?_)))))
  obtain ⟨ext1, x1, p1, p2⟩ := ht.put iw tw l 1 (.ref g)
  refine Z.P.set (a := x) (dx := dx) (m' := attS iw tw l 1 ext1) (by decide) (Ev.loc (by walk_at "mem") (by walk_at "mem") ⟨rfl, by walk_at "mem", by walk_at "mem", p1, by walk_at "upd", ?_⟩) (by show ext1.length + 4 ≤ 1000; lia)
  refine As.name ?_
  walk_at "sto"
  refine Ex.cons (Ex1.assign (Ev.boundApp (a := g) (Ev.loc (by walk_at "mem") (by walk_at "mem") ⟨rfl, by walk_at "mem", fun q => ?_⟩)))
  walk_at "sto"
  refine Ex.cons (Ex1.assignS hh' (Ev.tuple (EvL.cons (Ev.int (EvL.cons (Ev.callN (Ev.blt Z.G Z.len boot_len (fun _ => .bi _) (EvL.cons ?_))))))))
  walk_at "nm"
  refine EvL.nil ⟨Kpr.bi, Cl.lenS (by rw [S_len]; lia) (EvL.nil ⟨_, rfl, rfl, ?_⟩)⟩
  refine Sto.loc (by walk_at "mem") (by walk_at "put") (by walk_at "upd") ?_
  refine Sto.loc (by walk_at "mem") (by walk_at "put") (by walk_at "upd") ?_
  refine Ex.cons (outer (pm := pm) (cd := cd) (q := q) (g := g) (L := L) (x := x) (f := fS) (l := l6) Z.G Z.N Z.len hh' a6 e6 n6 ?_)
  intro R' ii lv ln ct good m st wk hr e1 e2 e3 e4
  subst e1 e2 e3 e4
  rw [hr] at r6
  obtain ⟨gl, g1, g2⟩ := fin_read e6
  rw [hr] at g1 g2
  refine Ex.wk wk (study_end Z.G Z.N Z.P p2 ?_ g1 g2 ?_)
  · have := run_len l6 (.code false) init
    rw [hr] at this
    have e : init.good.length = 1 := rfl
    rw [e] at this
    show st.good.length ≤ 100001
    exact Nat.le_trans this (by lia)
  · rw [← r6]; exact h g
end
theorem den_ints {z : Fz} {us : List Value} {xs : List Int} (h : IntsAre us xs) : DenL z us (xs.map V.int) := by
  induction h with
  | nil => exact .nil
  | cons n t _ ih => exact .cons (.int n t) ih
theorem entry {prog : Program} {w : World} {s₁ : Shared} {mg mb : Str → Option Value} {f a : Addr} {fd : FuncData} {body : List Stmt} {r : List Str} {m : List (Str × V)} {items : List Value} {xs : List Int} {P : Result → Shared → Prop} {A : Around}
    (G : GX ⟨prog, w, s₁.heap, s₁.os⟩ mg mb) (F : FnAt ⟨prog, w, s₁.heap, s₁.os⟩ f fd body ["script"]) (hg : s₁.gens = #[]) (hL : s₁.heap.IsList a items.toArray) (hI : IntsAre items xs)
    (b : Bnd ["script"] [.lst (xs.map V.int)] r m) (hn : ((["script"] : List Str) ++ r).Nodup) (hd : A.depth < recursionLimit)
    (hc : ∀ x ∈ fd.scope.names, x.2 ≠ .cell) (hl : ∀ x ∈ (["script"] : List Str), fd.scope.names.lookup x = some .local)
    (h : ∀ L, Ex ⟨prog, w, s₁.heap, s₁.os⟩ (A.deeper (fenv fd f L)) (fenv fd f L) body [(L, .ns m)] (fun g R => g.val = .bool true))
    (hP : ∀ s', (∀ b o, s₁.heap.get? b = some o → s'.heap.get? b = some o) → s'.os = s₁.os → s'.gens = #[] → P (.ok (.ret (.bool true))) s') :
    codeAny (model prog w) A (.call (.ref f) ⟨[.ref a], []⟩) P s₁ := by
  have H : Rel ⟨prog, w, s₁.heap, s₁.os⟩ s₁.heap.get? [] s₁ := ⟨fun _ _ e => e, fun _ _ e => e, (fun _ h => nomatch h), List.nodup_nil, hg, rfl⟩
  obtain ⟨o, ho, hcl, n, hdat⟩ := hL
  have d : Den s₁.heap.get? (.ref a) (.lst (xs.map V.int)) := .lst ho hcl hdat (by simpa using den_ints hI)
  refine codeAny_mono (fn_raw (Φ := fun v _ => v = .bool true) G F b hn hd hc hl (fun L => (h L).mono fun g R e => ⟨R, .rest, e⟩) H (Nat.succ_pos _) (.cons d .nil)) fun res s' q => ?_
  rcases res with e | (_ | _ | _ | v)
  · exact q.elim
  · exact q.elim
  · exact q.elim
  · exact q.elim
  · obtain ⟨z', R', v', e', H', d', rfl⟩ := q
    cases d'
    exact hP s' H'.keepB H'.os H'.gens
theorem good_true {c : ClaimW} {cl : Str → Option Addr} {mean : ExcName → Option Value} {args : List WData} {s₁ s' : Shared} (hn : ∀ cls, c.raises args cls = false) (hp : c.post args (.bool true) args = true)
    (hk : ∀ b o, s₁.heap.get? b = some o → s'.heap.get? b = some o) (hos : s'.os = s₁.os) (hg : s'.gens = #[]) : GoodW c cl mean args s₁ (.ok (.ret (.bool true))) s' :=
  ⟨.inl ⟨_, _, [], rfl, hn, .bool true, hp, unshared_nil⟩, hk, hos, hg⟩
theorem gx_of {p : Program} {loose : List Str} {mean : ExcName → Option Value} {mg mb : Str → Option Value} {h : Heap} (T : Top p loose mean mg mb h) {prog : Program} {w : World} {os : OsState} : GX ⟨prog, w, h, os⟩ mg mb := ⟨T.g, T.b, T.nolimit, T.builtins⟩
noncomputable def dictIn (K : Frag) (a : Addr) : Option (Array DictEntry) := (K.lookup a).bind fun o => match o.data with
  | .dict es _ => some es
  | _ => none
noncomputable def fnIn (K : Frag) (a : Addr) : Option FuncData := (K.lookup a).bind fun o => match o.data with
  | .func fd => some fd
  | _ => none
theorem dict_in {K : Frag} {a : Addr} {es : Array DictEntry} {h : Heap} (X : K.In h) (e : dictIn K a = some es) : ∃ o ep, h.get? a = some o ∧ o.data = .dict es ep := by
  unfold dictIn at e
  cases ho : K.lookup a with
  | none => rw [ho] at e; cases e
  | some o =>
    rw [ho] at e
    change (match o.data with | .dict es _ => some es | _ => none) = some es at e
    split at e
    · rename_i es' ep hd; cases e; exact ⟨o, ep, X _ _ ho, hd⟩
    · cases e
theorem glob_at {C : Cx} {mg mb : Str → Option Value} {K : Frag} {es : Array DictEntry} (G : GX C mg mb) (X : K.In C.B) (hd : dictIn K mainGlobals = some es) (x : Str) : mg x = nsFind es x := by
  obtain ⟨o', es', ep', h1, h2, _, h3⟩ := G.g
  obtain ⟨o, ep, h4, h5⟩ := dict_in X hd
  rw [h4] at h1
  cases h1
  rw [h5] at h2
  cases h2
  exact (h3 x).symm
theorem fn_in {C : Cx} {K : Frag} {f : Addr} {fd : FuncData} {body : List Stmt} {ns : List Str} (X : K.In C.B) (e : fnIn K f = some fd) (hb : fd.body = .stmts body) (hc : codeIn K fd.code fd.qualname = true)
    (h1 : fd.scope.isCoroutine = false) (h2 : fd.scope.isGenerator = false) (h3 : fd.scope.kind = .function) (h4 : ∀ us : List Value, us.length = ns.length → bindArgs fd ⟨us, []⟩ = pure (ns.zip us)) : FnAt C f fd body ns := by
  unfold fnIn at e
  cases ho : K.lookup f with
  | none => rw [ho] at e; cases e
  | some o =>
    rw [ho] at e
    change (match o.data with | .func fd => some fd | _ => none) = some fd at e
    split at e
    · rename_i fd' hd; cases e; exact ⟨⟨o, X _ _ ho, hd⟩, hb, codeRec_of X hc, h1, h2, h3, h4⟩
    · cases e
theorem cons_of {us : List Value} {n : Nat} (e : us.length = n + 1) : ∃ a t, us = a :: t ∧ t.length = n := by
  cases us with
  | nil => cases e
  | cons a t => exact ⟨a, t, rfl, Nat.succ.inj e⟩
theorem len1 {P : List Value → Prop} (h : ∀ a, P [a]) (us : List Value) (e : us.length = 1) : P us := by
  obtain ⟨a, t, rfl, e'⟩ := cons_of e
  rw [List.eq_nil_of_length_eq_zero e']; exact h a
theorem len2 {P : List Value → Prop} (h : ∀ a b, P [a, b]) (us : List Value) (e : us.length = 2) : P us := by
  obtain ⟨a, t, rfl, e'⟩ := cons_of e
  exact len1 (P := fun t => P (a :: t)) (h a) t e'
theorem len3 {P : List Value → Prop} (h : ∀ a b c, P [a, b, c]) (us : List Value) (e : us.length = 3) : P us := by
  obtain ⟨a, t, rfl, e'⟩ := cons_of e
  exact len2 (P := fun t => P (a :: t)) (h a) t e'
noncomputable def rowOk (i : Nat) (e : DictEntry) : Bool := match e.key, e.val with
  | .int k _, .int v _ => k == (i : Int) && v == (tr i : Int) && e.hash == hashInt k
  | _, _ => false
noncomputable def tabOk : Nat → List DictEntry → Bool
  | i, [] => i == 128
  | i, e :: es => rowOk i e && tabOk (i + 1) es
theorem rowOk_is {i : Nat} {e : DictEntry} (h : rowOk i e = true) : ∃ t u, e.key = .int i t ∧ e.val = .int (tr i) u ∧ e.hash = hashInt i := by
  unfold rowOk at h
  split at h
  · rename_i k t v u hk hv
    simp only [Bool.and_eq_true, beq_iff_eq] at h
    obtain ⟨⟨rfl, rfl⟩, h⟩ := h
    exact ⟨t, u, hk, hv, h⟩
  · cases h
theorem tabOk_is : ∀ {es : List DictEntry} {i : Nat}, tabOk i es = true → i + es.length = 128 ∧ ∀ j e, es[j]? = some e → rowOk (i + j) e = true
  | [], i, h => ⟨by simpa [tabOk] using h, fun j e h => by simp at h⟩
  | e :: es, i, h => by
    unfold tabOk at h
    rw [Bool.and_eq_true] at h
    obtain ⟨a, b⟩ := tabOk_is h.2
    refine ⟨by rw [List.length_cons]; lia, fun j e' h' => ?_⟩
    cases j with
    | zero => cases h'; exact h.1
    | succ j =>
      have := b j e' (by simpa using h')
      rwa [show i + 1 + j = i + (j + 1) by lia] at this
theorem tr_big {c : Nat} (h : 128 ≤ c) : tr c = 120 := by
  unfold tr
  rw [if_neg (by lia), if_neg (by lia), if_neg (by lia)]
theorem tab_keys {es : Array DictEntry} (h : tabOk 0 es.toList = true) : PySem.IntKeys es := fun e he => by
  obtain ⟨j, hj⟩ := List.mem_iff_getElem?.mp (Array.mem_toList_iff.mpr he)
  obtain ⟨t, u, a, b, c⟩ := rowOk_is ((tabOk_is h).2 j e hj)
  exact ⟨_, t, a, c⟩
theorem tab_val {es : Array DictEntry} (h : tabOk 0 es.toList = true) (c : Int) : (tabVal es c = none ∧ ∀ n : Nat, c = n → 128 ≤ n) ∨ ∃ n u, c = (n : Nat) ∧ tabVal es c = some (.int (tr n) u) := by
  unfold tabVal
  obtain ⟨h1, h2⟩ := tabOk_is h
  have hs : es.size = 128 := by simpa using h1
  have row : ∀ i (hi : i < es.size), ∃ t u, es[i].key = .int i t ∧ es[i].val = .int (tr i) u := fun i hi => by
    obtain ⟨t, u, a, b, _⟩ := rowOk_is (h2 i es[i] (by simp [hi]))
    exact ⟨t, u, by simpa using a, by simpa using b⟩
  cases hi : es.findIdx? fun e => Value.isInt c e.key with
  | none =>
    refine .inl ⟨rfl, fun n hn => ?_⟩
    rcases Nat.lt_or_ge n 128 with q | q
    · exfalso
      obtain ⟨t, u, a, b⟩ := row n (by lia)
      have := Array.findIdx?_eq_none_iff.mp hi es[n] (Array.getElem_mem _)
      rw [a, hn] at this
      simp [Value.isInt] at this
    · exact q
  | some i =>
    obtain ⟨h3, h4, _⟩ := Array.findIdx?_eq_some_iff_getElem.mp hi
    obtain ⟨t, u, a, b⟩ := row i h3
    refine .inr ⟨i, u, ?_, ?_⟩
    · rw [a] at h4
      have := h4
      simp [Value.isInt] at this
      lia
    · show (es[i]?).map (·.val) = _
      simp [h3, b]
theorem tab_all {C : Cx} {K : Frag} {tb cls dx fm : Addr} {es : Array DictEntry} {fd : FuncData} {body : List Stmt} {pm cd : Value} (h : tabOk 0 es.toList = true) (T : TabAt C K tb cls dx fm es fd body)
    (F : FnAt C fm (fdOf "ParseMap.__missing__" pm cd sMiss) (fnB sMiss) ["self", "key"]) :
    ∃ cls dx fm es fd body, TabAt C K tb cls dx fm es fd body ∧ (∀ c v, tabVal es c = some v → ∃ i u, v = .int i u) ∧ (∀ c : Nat, (match tabVal es c with | some (.int i _) => i | _ => 120) = (tr c : Int)) ∧
    ∃ pm cd, FnAt C fm (fdOf "ParseMap.__missing__" pm cd sMiss) (fnB sMiss) ["self", "key"] := by
  refine ⟨cls, dx, fm, es, fd, body, T, fun c v e => ?_, fun c => ?_, pm, cd, F⟩
  · rcases tab_val h c with ⟨a, _⟩ | ⟨n, u, _, a⟩
    · rw [a] at e; cases e
    · rw [a] at e; cases e; exact ⟨_, _, rfl⟩
  · rcases tab_val h c with ⟨a, b⟩ | ⟨n, u, e, a⟩
    · rw [a, tr_big (b c rfl)]; rfl
    · have : n = c := by lia
      subst this
      rw [a]
noncomputable def tabOf (o : Obj) : Option (Addr × Addr × Array DictEntry) := match o.cls, o.dict, o.data with
  | .ref c, some d, .dict es _ => some (c, d, es)
  | _, _, _ => none
noncomputable def tabIn (K : Frag) (a : Addr) : Option (Addr × Addr × Array DictEntry) := (K.lookup a).bind tabOf
theorem tab_at {K : Frag} {a c d : Addr} {es : Array DictEntry} {h : Heap} (X : K.In h) (e : tabIn K a = some (c, d, es)) : ∃ ep sl, h.get? a = some ⟨.ref c, some d, .dict es ep, sl⟩ := by
  unfold tabIn at e
  cases ho : K.lookup a with
  | none => rw [ho] at e; cases e
  | some o =>
    rw [ho] at e
    replace e : tabOf o = some (c, d, es) := e
    unfold tabOf at e
    split at e
    · rename_i c' d' es' ep h1 h2 h3
      cases e
      refine ⟨ep, o.slots, ?_⟩
      rw [X _ _ ho]
      obtain ⟨x1, x2, x3, x4⟩ := o
      dsimp only at h1 h2 h3
      rw [h1, h2, h3]
    · cases e
theorem obj_at {K : Frag} {a : Addr} {h : Heap} (X : K.In h) (e : (K.lookup a).isSome = true) : ∃ o, h.get? a = some o := by
  cases ho : K.lookup a with
  | none => rw [ho] at e; cases e
  | some o => exact ⟨o, X _ _ ho⟩
noncomputable def intIs (i : Int) : Option Value → Bool
  | some (.int k _) => k == i
  | _ => false
theorem intIs_is {i : Int} {v : Option Value} (h : intIs i v = true) : ∃ t, v = some (.int i t) := by
  unfold intIs at h
  split at h
  · rw [eq_of_beq h]; exact ⟨_, rfl⟩
  · cases h
structure KitM (C : Cx) (mg mb : Str → Option Value) (K : Frag) (c fI fC fS tb : Addr) : Prop where
  Z : Kit C mg mb K c fI fC fS tb
  nm : mg "Parser" = some (.ref c)
  keep : keepIn K (.ref c) = true
  makes : makesIn K c = true
  ini : findIn K (.ref c) "__init__" = some (some (.ref fI))
  tyI : typeIn K (.ref fI) = some (.type "function")
  gC : plainGet K c "set_code" = true
  cC : findIn K (.ref c) "set_code" = some (some (.ref fC))
  tC : isFn K (.ref fC) = true
  kC : keepIn K (.ref fC) = true
  gS : plainGet K c "_study1" = true
  cS : findIn K (.ref c) "_study1" = some (some (.ref fS))
  tS : isFn K (.ref fS) = true
  kS : keepIn K (.ref fS) = true
section
variable {C : Cx} {A : Around} {env : Env} {R : Led} {mg mb : Str → Option Value} {K : Frag} {Φ : V → Led → Prop} {x dx c fI fC fS tb : Addr} {l : List Nat} {iw tw : V} {ext : List (Str × V)} {pos : Pos}
theorem under_call (us : List Value) : (A.under (.builtin "type.__call__" ⟨.ref c :: us, []⟩)).depth = A.depth + 1 := by
  show A.depth + (Code.builtin "type.__call__" ⟨.ref c :: us, []⟩).weight = _
  rw [show (Code.builtin "type.__call__" ⟨.ref c :: us, []⟩).weight = 1 by kernel_rfl]
theorem KitM.made (Z : KitM C mg mb K c fI fC fS tb) (hd : A.depth + 1 < recursionLimit) {a b : Int} (h : ∀ x dx, Φ (.ref x) ((x, .obj (instObj c dx)) :: (dx, .att [("indentwidth", .int a), ("tabwidth", .int b)]) :: R)) : Cl C A (.ref c) [.int a, .int b] R Φ :=
  Cl.make Z.Z.P.X Z.makes Z.ini Z.tyI fun x dx us => Z.Z.made (by rw [under_call]; exact hd) ⟨rfl, h x dx⟩
end
noncomputable def glD (K : Frag) : Array DictEntry := (dictIn K mainGlobals).getD #[]
noncomputable def pmIn (K : Frag) (f : Addr) : Value := ((fnIn K f).map (·.pyModule)).getD .none
noncomputable def cdIn (K : Frag) (f : Addr) : Value := ((fnIn K f).map (·.code)).getD .none
theorem fd_kind (q : Str) (pm cd : Value) (st : Stmt) (h : (scB st).isCoroutine = false ∧ (scB st).isGenerator = false ∧ (scB st).kind = .function) : (fdOf q pm cd st).scope.isCoroutine = false ∧ (fdOf q pm cd st).scope.isGenerator = false ∧ (fdOf q pm cd st).scope.kind = .function := by
  rw [fd_scope]; exact h
theorem fn_at {C : Cx} {K : Frag} {f : Addr} {q : Str} {st : Stmt} {ns : List Str} (X : K.In C.B) (e : fnIn K f = some (fdOf q (pmIn K f) (cdIn K f) st)) (hb : (fdOf q (pmIn K f) (cdIn K f) st).body = .stmts (fnB st)) (hc : codeIn K (fdOf q (pmIn K f) (cdIn K f) st).code (fdOf q (pmIn K f) (cdIn K f) st).qualname = true)
    (h1 : (scB st).isCoroutine = false ∧ (scB st).isGenerator = false ∧ (scB st).kind = .function) (h4 : ∀ us : List Value, us.length = ns.length → bindArgs (fdOf q (pmIn K f) (cdIn K f) st) ⟨us, []⟩ = pure (ns.zip us)) : ∃ pm cd, FnAt C f (fdOf q pm cd st) (fnB st) ns :=
  have h := fd_kind q (pmIn K f) (cdIn K f) st h1
  ⟨_, _, fn_in X e hb hc h.1 h.2.1 h.2.2 h4⟩
section
variable {C : Cx} {A : Around} {env : Env} {R : Led} {mg mb : Str → Option Value} {K : Frag} {Φ : V → Led → Prop} {pm cd : Value} {c fI fC fS tb : Addr} {pos : Pos}
theorem Op2.addT {x y : Str} {a b : List Nat} (hx : x = S a) (hy : y = S b) (hl : a.length + b.length ≤ 16777216) (h : Φ (.str (S (a ++ b))) R) : Op2 C A .Add (.str x) (.str y) R Φ := by
  subst hx hy
  exact Op2.addS (by rw [S_len, S_len]; lia) (by rw [S_app]; exact h)
theorem nat_eq {w k : Nat} (e : ((w : Int) == (k : Int)) = true) : w = k := Int.ofNat.inj (eq_of_beq e)
theorem nat_ne {w k : Nat} (e : ((w : Int) == (k : Int)) = false) : w ≠ k := fun h => by subst h; rw [beq_self_eq_true] at e; cases e
theorem Sto.isV {x : Str} {v v' : V} {Φ : Led → Prop} (e : v = v') (h : Sto C A env x v' R Φ) : Sto C A env x v R Φ := e ▸ h
theorem FnAt.kpr {f : Addr} {fd : FuncData} {body : List Stmt} {ns : List Str} (F : FnAt C f fd body ns) : Kpr C R (.ref f) := by
  obtain ⟨o, h1, h2⟩ := F.at_
  exact Kpr.fn h1 h2
end
theorem fmod_nat (x : Int) (m : Nat) (hm : 0 < m) : ∃ w : Nat, w < m ∧ x.fmod m = w := by
  have h0 : (m : Int) ≠ 0 := by lia
  have h1 := Int.emod_nonneg x h0
  have h2 := Int.emod_lt_of_pos x (b := (m : Int)) (by lia)
  rw [Int.fmod_eq_emod_of_nonneg x (b := (m : Int)) (by lia)]
  exact ⟨(x % m).toNat, by lia, by lia⟩
noncomputable abbrev nV (D : List Nat) : List V := D.map fun n : Nat => V.int n
theorem nV_app (a b : List Nat) : nV (a ++ b) = nV a ++ nV b := List.map_append
section
variable {C : Cx} {A : Around} {env : Env} {R : Led} {mg mb : Str → Option Value} {Φ : V → Led → Prop} {k : Nat} {pos : Pos} {z : Fz} {s : Shared}
theorem Rel.keep (H : Rel C z R s) {h' : Heap} {t : Nat} (hk : ∀ c o, s.heap.get? c = some o → h'.get? c = some o) : Rel C z R { s with heap := h', toks := t } :=
  ⟨H.base, fun b o e => hk b o (H.kept b o e), fun p hp => ⟨(H.res p hp).1.keeps (Ext.refl _) fun o e => hk _ o e, (H.res p hp).2⟩, H.nodup, H.gens, H.os⟩
theorem perm3 {a x y : Addr × Res} {r : Led} : (a :: x :: y :: r).Perm (x :: y :: a :: r) := (List.Perm.swap x a _).trans (.cons _ (.swap y a _))
theorem perm3' {a x y : Addr × Res} {r : Led} : (x :: y :: a :: r).Perm (a :: x :: y :: r) := perm3.symm
end
section
variable {C : Cx} {A : Around} {env : Env} {R : Led} {Φ : V → Led → Prop} {pos : Pos}
inductive AttIs (iw tw : V) : List (Str × V) → List (Str × V) → Prop where
  | new : AttIs iw tw [(("indentwidth" : Str), iw), (("tabwidth" : Str), tw)] []
  | told (l : List Nat) (lev : Int) (u v : V) : AttIs iw tw (attS iw tw l lev [(("goodlines" : Str), u), (("continuation" : Str), v)]) [(("goodlines" : Str), u), (("continuation" : Str), v)]
structure Ask where
  l : List Nat
  gd : List Nat
  kd : Nat
structure Ask.ok (q : Ask) : Prop where
  ends : Ends q.l
  len : q.l.length ≤ 100000
  g : goodOf (read q.l) = q.gd
  k : kindOf (read q.l) = q.kd
end
theorem glue_nil : ∀ ps : List (List Nat), glue [] ps = ps.flatten
  | [] => rfl
  | [p] => by show p = p ++ []; rw [List.append_nil]
  | p :: q :: r => by
    show p ++ [] ++ glue [] (q :: r) = p ++ (q :: r).flatten
    rw [glue_nil (q :: r), List.append_nil]
theorem join_S (ds : List (List Nat)) : Txt.join ("" : Str) (ds.map S) = S ds.flatten := by
  rw [← S_of (Txt.join "" (ds.map S))]
  refine congrArg S ?_
  show (Builtin.Str.glued "" (ds.map S)).cps.toList = _
  rw [StrLaws.glued_eq_join, show ("" : Str) = S [] from rfl, join_glue, glue_nil, List.map_map]
  refine congrArg List.flatten ?_
  conv => rhs; rw [← List.map_id ds]
  exact List.map_congr_left fun x _ => S_cps x
section
variable {C : Cx} {A : Around} {env : Env} {R : Led} {Φ : V → Led → Prop} {pos : Pos}
end
section
variable {C : Cx} {A : Around} {env : Env} {R : Led} {mg mb : Str → Option Value} {Φ : V → Led → Prop} {pos : Pos}
end
theorem bindL_keep {kf : Str → Option NameKind} {x : Str} {u : Value} : ∀ {bs : List (Str × Value)} {m : Str → Option Value}, (∀ p ∈ bs, p.1 ≠ x) → m x = some u → bindL kf bs m x = some u
  | [], m, _, h => h
  | (n, v) :: bs, m, hn, h => by
    unfold bindL
    refine bindL_keep (fun p hp => hn p (.tail _ hp)) ?_
    have hne : x ≠ n := fun e => hn (n, v) (.head _) e.symm
    split
    · show (if x = n then some v else m x) = some u
      rw [if_neg hne]; exact h
    · exact h
theorem bindL_mem {kf : Str → Option NameKind} {x : Str} {u : Value} : ∀ {bs : List (Str × Value)} {m : Str → Option Value}, (∀ p ∈ bs, kf p.1 = some .local) → (bs.map (·.1)).Nodup → (x, u) ∈ bs → bindL kf bs m x = some u
  | (n, v) :: bs, m, hl, hn, h => by
    unfold bindL
    rw [if_pos (hl (n, v) (.head _))]
    obtain ⟨h1, h2⟩ := List.nodup_cons.mp hn
    rcases List.mem_cons.mp h with e | h
    · cases e
      exact bindL_keep (fun p hp e => h1 (e ▸ List.mem_map_of_mem (f := (·.1)) hp)) (if_pos rfl)
    · exact bindL_mem (fun p hp => hl p (.tail _ hp)) h2 h
theorem lookup_cell {cs : List (Str × Addr)} {n : Str} {c : Addr} : (cs.map (·.1)).Nodup → (n, c) ∈ cs → cs.lookup n = some c := by
  induction cs with
  | nil => intro _ h; cases h
  | cons p cs ih =>
    intro hn h
    obtain ⟨h1, h2⟩ := List.nodup_cons.mp hn
    rcases List.mem_cons.mp h with e | h
    · subst e; rw [List.lookup_cons, beq_self_eq_true]
    · have hne : n ≠ p.1 := fun e => h1 (by show p.1 ∈ _; rw [← e]; exact List.mem_map_of_mem (f := Prod.fst) h)
      rw [List.lookup_cons, beq_eq_false_iff_ne.mpr hne]; exact ih h2 h
section
variable {C : Cx} {A : Around} {R : Led} {mg mb : Str → Option Value} {Φ : V → Led → Prop}
theorem newEnvC {M : Model} {E : Value → Shared → Prop} {s : Shared} {scope : Scope} {globals : Addr} {n : Str} {v : Value} {qual : Str} {func : Option Addr} {code : Value} {builtins : Addr} {Q : Env → Shared → Prop}
    (hk : scope.kind = .function) (hl : scope.names.lookup n = some .local)
    (hQ : ∀ env, env = newEnv scope s.heap.objs.size globals (cellsFrom (s.heap.objs.size + 1) scope.names []) qual func code none builtins →
      ∀ s', InCallC s env.locals (bindL env.kindOf [(n, v)] fun _ => none) env.cells (bindC env.kindOf [(n, v)] fun _ => none) s' → 0 < s'.toks → Q env s') :
    wpAny M A (newFunctionEnv scope globals [] [(n, v)] qual func code none builtins) Q E s := by
  have key : ∀ (env : Env) (s₁ : Shared), env = newEnv scope s.heap.objs.size globals (cellsFrom (s.heap.objs.size + 1) scope.names []) qual func code none builtins →
      InCallC s env.locals (fun _ => none) env.cells (fun _ => none) s₁ → wpAny M A (do storeName env n v; pure env) Q E s₁ := by
    rintro env s₁ rfl x
    have hl' : (newEnv scope s.heap.objs.size globals (cellsFrom (s.heap.objs.size + 1) scope.names []) qual func code none builtins).kindOf n = some .local := hl
    refine wpAny_bind ?_
    refine wpAny_storeName_local hl' x.toInCall.ns (fun h' hn' hs' => wpAny_pure (hQ _ rfl _ ?_ (Nat.succ_pos _))) (by show (scope.kind == .class || (scope.kind == .module && _)) = false; rw [hk]; rfl)
    refine ⟨⟨?_, ?_, fun b o e => ?_, x.toInCall.fresh⟩, fun k c hc => ?_, x.apart, x.above⟩
    · obtain ⟨h₁, tk, rfl⟩ := x.toInCall.same
      exact ⟨h', _, rfl⟩
    · unfold bindL bindL; rw [if_pos hl']; exact hn'
    · exact hs'.extBut b o (Nat.ne_of_lt (Nat.lt_of_lt_of_le (Heap.lt_size e) x.toInCall.fresh)) (x.toInCall.keep b o e)
    · unfold bindC bindC; rw [if_pos hl']; exact (x.cell k c hc).sameBut hs' (Nat.ne_of_gt (x.above k c (mem_of_lookup hc)))
  have e : newFunctionEnv scope globals [] [(n, v)] qual func code none builtins = (do let env ← newFunctionEnv scope globals [] [] qual func code none builtins; storeName env n v; pure env) := by
    simp [newFunctionEnv]
  rw [e]
  refine wpAny_bind (wpAny_newFunctionEnv_cells hk (fun x hx => nomatch hx) fun env he s' x => key env s' he x)
noncomputable abbrev cellR (cs : List (Str × Addr)) : Led := cs.map fun p => (p.2, Res.cell .any)
theorem fn_rawC {f : Addr} {fd : FuncData} {body : List Stmt} {n₁ : Str} {r : List Str} {vs : List V} {m : List (Str × V)} {z : Fz} {s : Shared} {us : List Value} (G : GX C mg mb) (F : FnAt C f fd body [n₁]) (b : Bnd [n₁] vs r m) (hn : ([n₁] ++ r).Nodup) (hd : A.depth < recursionLimit)
    (hclo : fd.closure = []) (hcs : ∀ L, ((cellsFrom (L + 1) fd.scope.names []).map (·.1)).Nodup) (hl : ∀ x ∈ [n₁], fd.scope.names.lookup x = some .local)
    (h : ∀ L, Ex C (A.deeper (callEnvC fd L f)) (callEnvC fd L f) body ((L, .ns m) :: (cellR (cellsFrom (L + 1) fd.scope.names []) ++ R)) (Back Φ)) (H : Rel C z R s) (ds : DenL z us vs) : codeAny C.M A (.call (.ref f) ⟨us, []⟩) (CRes C z Φ) s := by
  obtain ⟨o, ho, hdat⟩ := F.at_
  have hlen : us.length = [n₁].length := ds.length.trans b.keys.2
  obtain ⟨u₁, rfl⟩ : ∃ u, us = [u] := List.length_eq_one_iff.mp hlen
  have hzk : ([n₁].zip [u₁]).map (·.1) = [n₁] := zip_keys hlen
  have hloc : ∀ p ∈ [n₁].zip [u₁], fd.scope.names.lookup p.1 = some .local := fun p hp => hl p.1 (by rw [← hzk]; exact List.mem_map_of_mem (f := (·.1)) hp)
  have hnz : (([n₁].zip [u₁]).map (·.1)).Nodup := by rw [hzk]; exact (List.nodup_append.mp hn).1
  refine codeAny_call_function hd (H.keepB _ _ ho) hdat F.co F.gen F.body (F.code.keeps H.keepB) ?_
  rw [F.bind [u₁] hlen, hclo]
  refine wpAny_pure (newEnvC F.kind (hl n₁ (.head _)) fun env he s₁ x t₁ => ?_)
  subst he
  change InCallC s (callEnvC fd s.heap.objs.size f).locals (bindL (callEnvC fd s.heap.objs.size f).kindOf ([n₁].zip [u₁]) fun _ => none) (callEnvC fd s.heap.objs.size f).cells (bindC (callEnvC fd s.heap.objs.size f).kindOf ([n₁].zip [u₁]) fun _ => none) s₁ at x
  refine ⟨G.nolimit.keeps fun b o e => x.toInCall.keep b o (H.keepB _ _ e), codeAny_func ?_⟩
  obtain ⟨h₁, tk, hsame⟩ := x.toInCall.same
  have zf : ∀ a, s.heap.objs.size ≤ a → z a = none := fun a ha => by
    cases e : z a with
    | none => rfl
    | some o => exact absurd (Heap.lt_size (H.kept _ _ e)) (Nat.not_lt.mpr ha)
  have rl : ∀ p ∈ R, p.1 < s.heap.objs.size := fun p hp => by
    obtain ⟨o, e⟩ := (H.res p hp).1.there
    exact Heap.lt_size e
  have hns : ResAt z s₁.heap s.heap.objs.size (.ns m) := ⟨b.keys.1 ▸ hn, _, x.toInCall.ns, fun p hp => (b.mem ds p hp).imp id fun ⟨u, a, c⟩ => ⟨u, bindL_mem (fun q hq => hloc q hq) hnz a, c⟩⟩
  have Hs : Rel C z ((s.heap.objs.size, .ns m) :: (cellR (cellsFrom (s.heap.objs.size + 1) fd.scope.names []) ++ R)) s₁ := by
    refine ⟨H.base, fun a o e => x.toInCall.keep a o (H.kept a o e), fun p hp => ?_, ?_, by rw [hsame]; exact H.gens, by rw [hsame]; exact H.os⟩
    · rcases List.mem_cons.mp hp with rfl | hp
      · exact ⟨hns, zf _ (Nat.le_refl _)⟩
      · rcases List.mem_append.mp hp with hp | hp
        · obtain ⟨q, hq, rfl⟩ := List.mem_map.mp hp
          have ha : s.heap.objs.size < q.2 := x.above q.1 q.2 hq
          exact ⟨⟨_, x.cell q.1 q.2 (lookup_cell (hcs _) hq), .inl rfl⟩, zf _ (Nat.le_of_lt ha)⟩
        · exact ⟨(H.res p hp).1.keeps (Ext.refl _) fun o e => x.toInCall.keep _ o e, (H.res p hp).2⟩
    · rw [List.map_cons, List.map_append, List.nodup_cons, List.nodup_append]
      have hmm : (cellR (cellsFrom (s.heap.objs.size + 1) fd.scope.names [])).map (·.1) = (cellsFrom (s.heap.objs.size + 1) fd.scope.names []).map (·.2) := by rw [List.map_map]; rfl
      have hab : ∀ a ∈ (cellsFrom (s.heap.objs.size + 1) fd.scope.names []).map (·.2), s.heap.objs.size < a := fun a ha => by
        obtain ⟨q, hq, rfl⟩ := List.mem_map.mp ha
        exact x.above q.1 q.2 hq
      have hrr : ∀ a ∈ R.map (·.1), a < s.heap.objs.size := fun a ha => by
        obtain ⟨q, hq, rfl⟩ := List.mem_map.mp ha
        exact rl q hq
      rw [hmm]
      refine ⟨fun hm => ?_, List.pairwise_map.mpr x.apart, H.nodup, fun a ha c hc e => ?_⟩
      · rcases List.mem_append.mp hm with hm | hm
        · exact Nat.lt_irrefl _ (hab _ hm)
        · exact Nat.lt_irrefl _ (hrr _ hm)
      · subst e; exact Nat.lt_irrefl _ (Nat.lt_trans (hab _ ha) (hrr _ hc))
  refine wpNo t₁ (h _ z _ Hs t₁) fun fl s' t' ⟨z', R', g, e', H'', d', R'', wk, p⟩ => ?_
  refine ⟨z', R'', g.val, e', H''.wk wk, ?_, p⟩
  cases d' with
  | ret d => exact d
  | next => exact .none
  | brk => exact .none
  | cont => exact .none
end
section
variable {C : Cx} {A : Around} {env : Env} {R : Led} {mg mb : Str → Option Value} {Φ : V → Led → Prop} {pos : Pos}
theorem Cmp.isNotNone {Φ : Bool → Led → Prop} (h : Φ false R) : Cmp C A .IsNot .none .none R Φ := fun z s u v H t d e => by
  obtain rfl := d.noneI; obtain rfl := e.noneI
  exact wpAny_isNot_self rfl (bp H h)
end
structure Walk (C : Cx) (A : Around) (z₁ : Fz) (it : Addr) (vs : List V) (St : Nat → Obj → Prop) : Prop where
  item : ∀ {z : Fz} {R : Led} {s : Shared} {i : Nat} {o : Obj} {Q : Option Value → Shared → Prop} {E : Value → Shared → Prop} {v : V}, Ext z₁ z → Rel C z R s → (it, .obj o) ∈ R → St i o → vs[i]? = some v → 0 < s.toks →
    (∀ h' tk u o', 0 < tk → Heap.SameBut it s.heap h' → h'.get? it = some o' → St (i + 1) o' → Den z u v → Q (some u) { s with heap := h', toks := tk }) → wpAny C.M A (pyNext (.ref it)) Q E s
  done : ∀ {z : Fz} {R : Led} {s : Shared} {o : Obj} {Q : Option Value → Shared → Prop} {E : Value → Shared → Prop}, Ext z₁ z → Rel C z R s → (it, .obj o) ∈ R → St vs.length o →
    (∀ h', Heap.ExtBut it s.heap h' → Q none { s with heap := h' }) → wpAny C.M A (pyNext (.ref it)) Q E s
  self : ∀ {z : Fz} {R : Led} {s : Shared} {i : Nat} {o : Obj} {Q : Value → Shared → Prop} {E : Value → Shared → Prop}, Rel C z R s → (it, .obj o) ∈ R → St i o → Q (.ref it) s → wpAny C.M A (pyIter (.ref it)) Q E s
noncomputable def Itb (C : Cx) (A : Around) (v : V) (vs : List V) (R : Led) : Prop := ∀ {z : Fz} {s : Shared} {u : Value} {Q : Value → Shared → Prop} {E : Value → Shared → Prop}, Rel C z R s → Den z u v →
  (∀ o St, o.isFreed = false → Walk C A z s.heap.objs.size vs St → St 0 o → Q (.ref s.heap.objs.size) { s with heap := s.heap.push o }) → wpAny C.M A (pyIter u) Q E s
section
variable {C : Cx} {A : Around} {env : Env} {R : Led} {mg mb : Str → Option Value} {Φ : V → Led → Prop} {Ψ : Fl → Led → Prop} {pos : Pos}
theorem Itb.lst {vs : List V} (hh : A.handled = none) : Itb C A (.lst vs) vs R := fun {z s u Q E} H d h => by
  cases d with
  | @lst a ol items n _ hz hc hdat ds =>
    have hl : s.heap.IsList a items := ⟨ol, H.kept _ _ hz, hc, n, hdat⟩
    have hsz : items.size = vs.length := by rw [← Array.length_toList]; exact ds.length
    refine wpAny_pyIter_list hl (h _ (fun i o => o.cls = .type "list_iterator" ∧ o.data = .fields #[.ref a, .int (i : Nat) 0]) rfl ⟨?_, ?_, ?_⟩ ⟨rfl, rfl⟩)
    · intro z' R' s' i o Q E v e H' ho st hv t hQ
      have hit : s'.heap.IsListIter s.heap.objs.size a i := ⟨o, (H'.res _ ho).1, st.1, st.2⟩
      have hl' : s'.heap.IsList a items := ⟨ol, H'.kept _ _ (e _ _ hz), hc, _, hdat⟩
      obtain ⟨x, hx, dx⟩ := (ds.mono e).get hv
      refine wpAny_pyNext_list_item hit hl' (x := x) (by simpa using hx) fun h₂ hit₂ hs₂ => ?_
      obtain ⟨o₂, ho₂, oc₂, od₂⟩ := id hit₂
      exact hQ h₂ s'.toks x o₂ t hs₂ ho₂ ⟨oc₂, od₂⟩ dx
    · intro z' R' s' o Q E e H' ho st hQ
      have hit : s'.heap.IsListIter s.heap.objs.size a vs.length := ⟨o, (H'.res _ ho).1, st.1, st.2⟩
      have hl' : s'.heap.IsList a items := ⟨ol, H'.kept _ _ (e _ _ hz), hc, _, hdat⟩
      exact wpAny_pyNext_list_end hh hit hl' (by simp; lia) hQ
    · intro z' R' s' i o Q E H' ho st hQ
      exact wpAny_pyIter_listiter (i := i) (l := a) ⟨o, (H'.res _ ho).1, st.1, st.2⟩ hQ
noncomputable def TsL (C : Cx) (A : Around) (env : Env) : List Expr → Led → (Bool → Led → Prop) → Prop
  | [], R, Φ => Φ true R
  | [c], R, Φ => Ts C A env c R Φ
  | _, _, _ => False
theorem TsL.nil {Φ : Bool → Led → Prop} (h : Φ true R) : TsL C A env [] R Φ := h
theorem TsL.sound {ifs : List Expr} {Φ : Bool → Led → Prop} {z : Fz} {s : Shared} {Q : Bool → Shared → Prop} (h : TsL C A env ifs R Φ) (H : Rel C z R s) (t : 0 < s.toks)
    (k : ∀ z' R' b s', Ext z z' → Rel C z' R' s' → 0 < s'.toks → Φ b R' → Q b s') :
    wpAny C.M A (forIn ifs true fun c r => if r = true then do let ok ← isTrue c env (eval c env); pure (ForInStep.yield ok) else pure (ForInStep.yield r)) Q NoE s := by
  match ifs, h with
  | [], h => exact wpAny_tests_nil (k z R true s (Ext.refl _) H t h)
  | [c], h => exact wpAny_tests_one (Ts.then h H t k)
  | _ :: _ :: _, h => exact h.elim
theorem Ev.compWk {elt iter : Expr} {x : Str} {px p : Pos} {ifs : List Expr} {scope : Scope} {cl : List (Str × Addr)} (I : List V → List V → Led → Prop)
    (h : Ev C A env iter R fun v R₁ => ∃ vs R₂, Itb C A v vs R₁ ∧ vs.length ≤ 100000 ∧ Wk R₁ R₂ ∧ I vs [] R₂)
    (turn : ∀ c it o D v rest ws R, I (v :: rest) ws R → TsL C A (compEnvC scope cl c env) ifs ((c, .ns [(x, v)]) :: (it, .obj o) :: (D, .list ws) :: R) fun ok R₁ =>
      if ok = true then Ev C A (compEnvC scope cl c env) elt R₁ fun w R' => ∃ R'', Wk R' ((c, .ns [(x, .any)]) :: (it, .obj o) :: (D, .list ws) :: R'') ∧ I rest (ws ++ [w]) R''
      else ∃ R'', Wk R₁ ((c, .ns [(x, .any)]) :: (it, .obj o) :: (D, .list ws) :: R'') ∧ I rest ws R'')
    (fin : ∀ D ws R, I [] ws R → Φ (.ref D) ((D, .list ws) :: R))
    (hclos : closureFor scope env = pure cl) (hcell : ∀ y ∈ scope.names, y.2 ≠ .cell) (hkind : scope.kind = .function) (hnames : ∀ y ∈ scope.names, y.2 = .local → scope.names.lookup y.1 = some .local) (hx : scope.names.lookup x = some .local)
    (hs : ∀ x, foldedSetIterable iter env x = pure x := by intro _; rfl) : Ev C A env (.ListComp elt [⟨.Name x px, iter, ifs, 0⟩] scope p) R Φ := fun z s H t => by
  rw [eval_ListComp]
  refine wpAny_comprehension_free (g := ⟨.Name x px, iter, ifs, 0⟩) (gs := []) (use := Option.none) rfl hs hclos hkind hnames (h.then H t fun z₁ R₁ v u s₁ e₁ H₁ t₁ d₁ h₁ => ?_)
  obtain ⟨vs, R₀, hit, hn, hwk, hI⟩ := h₁
  refine hit H₁ d₁ fun o₀ St hfr W hst => ?_
  have Hp : Rel C z₁ ((s₁.heap.objs.size, .obj o₀) :: R₀) { s₁ with heap := s₁.heap.push o₀ } := (H₁.wk hwk).pushR (r := .obj _) (Heap.get?_push_size _ hfr)
  generalize hs2 : ({ s₁ with heap := s₁.heap.push o₀ } : Shared) = s₂ at Hp
  have t₂ : 0 < s₂.toks := by rw [← hs2]; exact t₁
  generalize s₁.heap.objs.size = it at Hp W ⊢
  have Hq := Hp.pushM (us := []) (vs := []) .nil
  refine wpAny_newObj_type (wpAny_newFunctionEnv hcell (by intro y hy; simp at hy) (fun h₂ hns hsb => ?_) hkind)
  dsimp only at hns hsb ⊢
  generalize s₂.heap.objs.size = D at Hq hns hsb ⊢
  generalize hs3 : ({ s₂ with heap := s₂.heap.push { cls := .type "list", data := .seq ([] : List Value).toArray } } : Shared) = s₃ at Hq
  have t₃ : 0 < s₃.toks := by rw [← hs3]; exact t₂
  have eh : s₂.heap.push { cls := .type "list", data := .seq ([] : List Value).toArray } = s₃.heap := by rw [← hs3]
  have eall : ∀ (h' : Heap) (k : Nat), ({ s₂ with heap := h', toks := k } : Shared) = { s₃ with heap := h', toks := k } := fun h' k => by rw [← hs3]
  rw [eh] at hns hsb ⊢
  rw [eall]
  have Hr : Rel C z₁ ((s₃.heap.objs.size, .ns [(x, .any)]) :: (D, .list []) :: (it, .obj o₀) :: R₀) { s₃ with heap := h₂, toks := s₂.toks + ([] : List (Str × Value)).length } :=
    Hq.more (r := .ns [(x, .any)]) ⟨by simp, _, hns, fun q hq => .inl (by rw [List.mem_singleton.mp hq])⟩ Hq.fresh Hq.notIn fun b o hb e => hsb.extBut b o hb (Heap.get?_push_of_some _ e)
  have Hr' := Hr.wk (.same (.perm (List.Perm.swap _ _ _) .rest))
  generalize s₃.heap.objs.size = c at Hr' ⊢
  have t₄ : 0 < ({ s₃ with heap := h₂, toks := s₂.toks + ([] : List (Str × Value)).length } : Shared).toks := by show 0 < s₂.toks + 0; lia
  generalize ({ s₃ with heap := h₂, toks := s₂.toks + ([] : List (Str × Value)).length } : Shared) = s₄ at Hr' t₄ ⊢
  have loop : ∀ s₅ : Shared, s₅ = s₄ → codeAny C.M A (.compLoop (.ListComp elt [⟨.Name x px, iter, ifs, 0⟩] scope p) 0 (.ref it) (.ref D) (compEnvC scope cl c env)) (compPost C.M A NoE Option.none (VPost C z Φ) (.ref D) c) s₅ := by
    rintro s₅ rfl
    refine codeAny_compLoop_tests (fun m s' => ∃ z' R' i o ws, m = vs.length - i ∧ i ≤ vs.length ∧ Ext z₁ z' ∧ 0 < s'.toks ∧ Rel C z' ((c, .ns [(x, .any)]) :: (it, .obj o) :: (D, .list ws) :: R') s' ∧ St i o ∧ I (vs.drop i) ws R' ∧ ws.length ≤ i) ?_ vs.length ⟨z₁, R₀, 0, _, [], rfl, Nat.zero_le _, Ext.refl _, t₄, Hr', hst, by simpa using hI, Nat.le_refl _⟩
    rintro m s' ⟨z', R', i, o, ws, hm, hi, e', t', H', st, hI', hws⟩
    by_cases hlt : i < vs.length
    · refine W.item (i := i) (v := vs[i]) e' H' (.tail _ (.head _)) st (by simp [hlt]) t' fun h₂ tk xv o₂ htk hs₂ ho₂ st₂ dx => ?_
      have H₂ : Rel C z' ((c, .ns [(x, .any)]) :: (it, .obj o₂) :: (D, .list ws) :: R') { s' with heap := h₂, toks := tk } := H'.upd (t := tk) (.there .here) hs₂ ho₂
      have hdr : vs.drop i = vs[i] :: vs.drop (i + 1) := List.drop_eq_getElem_cons hlt
      rw [hdr] at hI'
      have T : As C A (compEnvC scope cl c env) (.Name x px) vs[i] ((c, .ns [(x, .any)]) :: (it, .obj o₂) :: (D, .list ws) :: R') (fun R₀ => R₀ = (c, .ns [(x, vs[i])]) :: (it, .obj o₂) :: (D, .list ws) :: R') :=
        As.name (Sto.loc memH Put.here Upd.here rfl (lookup_relabel_local hx) rfl (by simp [compEnvC, relabel, hkind]))
      have main : wpAny C.M A (PySem.assign (.Name x px) (compEnvC scope cl c env) xv) (fun _ s₂ =>
          wpAny C.M A (forIn ifs true fun c' r => if r = true then do let ok ← isTrue c' (compEnvC scope cl c env) (eval c' (compEnvC scope cl c env)); pure (ForInStep.yield ok) else pure (ForInStep.yield r)) (fun ok s₃ =>
            if ok = true then wpAny C.M A (eval elt (compEnvC scope cl c env)) (fun y s₃ => wpAny C.M A (call (.builtin "list.append") [.ref D, y])
              (fun _ s₄ => ∃ m', m' < m ∧ ∃ z' R' i o ws, m' = vs.length - i ∧ i ≤ vs.length ∧ Ext z₁ z' ∧ 0 < s₄.toks ∧ Rel C z' ((c, .ns [(x, .any)]) :: (it, .obj o) :: (D, .list ws) :: R') s₄ ∧ St i o ∧ I (vs.drop i) ws R' ∧ ws.length ≤ i) NoE s₃) NoE s₃
            else ∃ m', m' < m ∧ ∃ z' R' i o ws, m' = vs.length - i ∧ i ≤ vs.length ∧ Ext z₁ z' ∧ 0 < s₃.toks ∧ Rel C z' ((c, .ns [(x, .any)]) :: (it, .obj o) :: (D, .list ws) :: R') s₃ ∧ St i o ∧ I (vs.drop i) ws R' ∧ ws.length ≤ i) NoE s₂) NoE { s' with heap := h₂, toks := tk } := by
        refine T.then H₂ htk dx fun z₃ R₃ s₃ e₃ H₃ t₃ h₃ => ?_
        subst h₃
        refine (turn c it o₂ D vs[i] (vs.drop (i + 1)) ws R' hI').sound H₃ t₃ fun z₅ R₅ ok s₅ e₅ H₅ t₅ h₅ => ?_
        cases ok with
        | true =>
          simp only [if_true] at h₅ ⊢
          refine h₅.then H₅ t₅ fun z₄ R₄ w u s₄ e₄ H₄ t₄ d₄ h₄ => ?_
          obtain ⟨R₆, wk, hI₅⟩ := h₄
          refine wpNo t₄ ((Cl.append (C := C) (A := A) (a := D) (vs := ws) (v := w) (Φ := fun _ R' => R' = (c, .ns [(x, .any)]) :: (it, .obj o₂) :: (D, .list (ws ++ [w])) :: R₆) (.there (.there .here)) (by lia) rfl) z₄ s₄ _ _ (H₄.wk wk) t₄ (.bi _) (.cons (.ref D) (.cons d₄ .nil))) fun y s₅ t₅ q => ?_
          obtain ⟨z₅', R₇, v₅, e₅', H₅', d₅, rfl⟩ := q
          exact ⟨vs.length - (i + 1), by lia, z₅', R₆, i + 1, o₂, ws ++ [w], rfl, hlt, (((e'.trans e₃).trans e₅).trans e₄).trans e₅', t₅, H₅', st₂, hI₅, by rw [List.length_append]; show ws.length + 1 ≤ _; lia⟩
        | false =>
          simp only [Bool.false_eq_true, if_false] at h₅ ⊢
          obtain ⟨R₆, wk, hI₅⟩ := h₅
          exact ⟨vs.length - (i + 1), by lia, z₅, R₆, i + 1, o₂, ws, rfl, hlt, (e'.trans e₃).trans e₅, t₅, H₅.wk wk, st₂, hI₅, by lia⟩
      dsimp only
      refine wpAny_mono main (fun _ s₂ q => wpAny_mono q (fun ok s₃ q => ?_) fun _ _ x => x.elim) fun _ _ x => x.elim
      cases ok with
      | true =>
        simp only [if_true] at q ⊢
        exact wpAny_mono q (fun _ s₃ q => wpAny_mono q (fun _ _ r => r) fun _ _ x => x.elim) fun _ _ x => x.elim
      | false => exact q
    · obtain rfl : i = vs.length := by lia
      refine W.done e' H' (.tail _ (.head _)) st fun h₂ he₂ => ?_
      have hnil : vs.drop vs.length = [] := by simp
      rw [hnil] at hI'
      have Hs := H'.wk (.perm (List.Perm.swap _ _ _) .rest)
      have hne : it ∉ (((c, Res.ns [(x, V.any)]) :: (D, Res.list ws) :: R') : Led).map (·.1) := (List.nodup_cons.mp Hs.nodup).1
      have hz0 : z' it = Option.none := (Hs.res _ (.head _)).2
      have H₂ : Rel C z' ((c, .ns [(x, .any)]) :: (D, .list ws) :: R') { s' with heap := h₂ } := (Hs.tail).grown (t := s'.toks) hz0 hne he₂
      obtain ⟨⟨_, g, hN, _⟩, hz1⟩ := H₂.res _ (.head _)
      have hne1 : c ∉ (((D, Res.list ws) :: R') : Led).map (·.1) := (List.nodup_cons.mp H₂.nodup).1
      exact ⟨g, hN, fun h₃ hs₃ => ⟨z', (D, .list ws) :: R', .ref D, e₁.trans e', (H₂.tail).grown (t := s'.toks) hz1 hne1 hs₃.extBut, .ref D, fin D ws R' hI'⟩⟩
  exact codeAny_compStart_list (loop _ rfl) (W.self Hr' (.tail _ (.head _)) hst (loop _ rfl))
end
inductive Cpr {α : Type} (all : List α) (φ : α → V) (F : List α → List V) (R0 : Led) (vs ws : List V) (R : Led) : Prop where
  | mk (done todo : List α) : all = done ++ todo → vs = todo.map φ → ws = F done → R = R0 → Cpr all φ F R0 vs ws R
section
variable {C : Cx} {A : Around} {env : Env} {R : Led} {Φ : V → Led → Prop} {pos : Pos}
theorem Ev.compG {α : Type} {elt iter : Expr} {x : Str} {px p : Pos} {ifs : List Expr} {scope : Scope} {cl : List (Str × Addr)} (all : List α) (φ : α → V) (F : List α → List V)
    (h : Ev C A env iter R fun v R₁ => Itb C A v (all.map φ) R₁ ∧ all.length ≤ 100000 ∧ Wk R₁ R) (hF : F [] = [])
    (turn : ∀ c it o D done a todo, all = done ++ a :: todo → TsL C A (compEnvC scope cl c env) ifs ((c, .ns [(x, φ a)]) :: (it, .obj o) :: (D, .list (F done)) :: R) fun ok R₁ =>
      if ok = true then Ev C A (compEnvC scope cl c env) elt R₁ fun w R' => R' = (c, .ns [(x, φ a)]) :: (it, .obj o) :: (D, .list (F done)) :: R ∧ F (done ++ [a]) = F done ++ [w]
      else R₁ = (c, .ns [(x, φ a)]) :: (it, .obj o) :: (D, .list (F done)) :: R ∧ F (done ++ [a]) = F done)
    (fin : ∀ D, Φ (.ref D) ((D, .list (F all)) :: R))
    (hclos : closureFor scope env = pure cl) (hcell : ∀ y ∈ scope.names, y.2 ≠ .cell) (hkind : scope.kind = .function) (hnames : ∀ y ∈ scope.names, y.2 = .local → scope.names.lookup y.1 = some .local) (hx : scope.names.lookup x = some .local)
    (hs : ∀ x, foldedSetIterable iter env x = pure x := by intro _; rfl) : Ev C A env (.ListComp elt [⟨.Name x px, iter, ifs, 0⟩] scope p) R Φ := by
  refine Ev.compWk (cl := cl) (Cpr all φ F R) (h.mono fun v R₁ ⟨h1, h2, h3⟩ => ⟨_, R, h1, by rw [List.length_map]; exact h2, h3, .mk [] all rfl rfl hF.symm rfl⟩) ?_ ?_ hclos hcell hkind hnames hx hs
  · rintro c it o D v rest ws R' ⟨done, todo, h1, hvs, rfl, rfl⟩
    cases todo with
    | nil => cases hvs
    | cons a todo =>
    obtain ⟨rfl, rfl⟩ := List.cons.inj hvs
    have key : ∀ {R₁ : Led} {b : Bool}, (if b = true then Ev C A (compEnvC scope cl c env) elt R₁ fun w R'' => R'' = (c, .ns [(x, φ a)]) :: (it, .obj o) :: (D, .list (F done)) :: R' ∧ F (done ++ [a]) = F done ++ [w]
        else R₁ = (c, .ns [(x, φ a)]) :: (it, .obj o) :: (D, .list (F done)) :: R' ∧ F (done ++ [a]) = F done) →
        if b = true then Ev C A (compEnvC scope cl c env) elt R₁ fun w R'' => ∃ R₂, Wk R'' ((c, .ns [(x, .any)]) :: (it, .obj o) :: (D, .list (F done)) :: R₂) ∧ Cpr all φ F R' (todo.map φ) (F done ++ [w]) R₂
        else ∃ R₂, Wk R₁ ((c, .ns [(x, .any)]) :: (it, .obj o) :: (D, .list (F done)) :: R₂) ∧ Cpr all φ F R' (todo.map φ) (F done) R₂ := by
      intro R₁ b q
      cases b with
      | true =>
        simp only [if_true] at q ⊢
        refine q.mono fun w R₂ ⟨e1, e2⟩ => ?_
        subst e1
        exact ⟨R', .ns (.any .nil) .rest, .mk (done ++ [a]) todo (by rw [h1, List.append_assoc]; rfl) rfl e2.symm rfl⟩
      | false =>
        simp only [Bool.false_eq_true, if_false] at q ⊢
        obtain ⟨e1, e2⟩ := q
        subst e1
        exact ⟨R', .ns (.any .nil) .rest, .mk (done ++ [a]) todo (by rw [h1, List.append_assoc]; rfl) rfl e2.symm rfl⟩
    have T := turn c it o D done a todo h1
    match ifs, T with
    | [], T => exact TsL.nil (key (b := true) T)
    | [t], T => exact fun z s H tk => wpNo tk (show wpAny _ _ (isTrue t _ (eval t _)) _ _ _ from T z s H tk) fun b s' _ ⟨z', R₂, e, H', p⟩ => ⟨z', R₂, e, H', key p⟩
    | _ :: _ :: _, T => exact T.elim
  · rintro D ws R' ⟨done, todo, h1, hvs, rfl, rfl⟩
    cases todo with
    | cons a todo => cases hvs
    | nil =>
    rw [List.append_nil] at h1
    subst h1
    exact fin D
theorem Ev.compF {α : Type} {elt iter : Expr} {x : Str} {px p : Pos} {ifs : List Expr} {scope : Scope} {cl : List (Str × Addr)} (all : List α) (φ : α → V) (F : List α → List V)
    (h : Ev C A env iter R fun v R₁ => Itb C A v (all.map φ) R₁ ∧ all.length ≤ 100000 ∧ R₁ = R) (hF : F [] = [])
    (turn : ∀ c it o D done a todo, all = done ++ a :: todo → TsL C A (compEnvC scope cl c env) ifs ((c, .ns [(x, φ a)]) :: (it, .obj o) :: (D, .list (F done)) :: R) fun ok R₁ =>
      if ok = true then Ev C A (compEnvC scope cl c env) elt R₁ fun w R' => R' = (c, .ns [(x, φ a)]) :: (it, .obj o) :: (D, .list (F done)) :: R ∧ F (done ++ [a]) = F done ++ [w]
      else R₁ = (c, .ns [(x, φ a)]) :: (it, .obj o) :: (D, .list (F done)) :: R ∧ F (done ++ [a]) = F done)
    (fin : ∀ D, Φ (.ref D) ((D, .list (F all)) :: R))
    (hclos : closureFor scope env = pure cl) (hcell : ∀ y ∈ scope.names, y.2 ≠ .cell) (hkind : scope.kind = .function) (hnames : ∀ y ∈ scope.names, y.2 = .local → scope.names.lookup y.1 = some .local) (hx : scope.names.lookup x = some .local)
    (hs : ∀ x, foldedSetIterable iter env x = pure x := by intro _; rfl) : Ev C A env (.ListComp elt [⟨.Name x px, iter, ifs, 0⟩] scope p) R Φ :=
  Ev.compG (cl := cl) all φ F (h.mono fun v R₁ ⟨h1, h2, h3⟩ => ⟨h1, h2, by rw [h3]; exact .rest⟩) hF turn fin hclos hcell hkind hnames hx hs
end
section
variable {C : Cx} {A : Around} {env : Env} {R : Led} {mg mb : Str → Option Value} {Φ : V → Led → Prop} {Ψ : Fl → Led → Prop} {pos : Pos}
noncomputable abbrev rngP (a b : Int) (t u v : Tok) : Obj := { cls := .type "range", data := .fields #[.int a t, .int b u, .int 1 v] }
theorem Cl.range2 {a b : Int} (h : ∀ r t u v, Φ (.ref r) ((r, .obj (rngP a b t u v)) :: R)) : Cl C A (.ty "range") [.int a, .int b] R Φ := fun z s u us H t d ds => by
  obtain rfl := d.tyI
  obtain ⟨_, _, rfl, q0, e0⟩ := ds.consI
  obtain ⟨_, rfl⟩ := q0.intI
  obtain ⟨_, _, rfl, q1, e1⟩ := e0.consI
  obtain ⟨_, rfl⟩ := q1.intI
  obtain rfl := e1.nilI
  refine call_range_2 ?_
  exact ⟨z, _, _, Ext.refl _, (H.pushR (r := .obj _) (Heap.get?_push_size _ rfl)).toks _, .ref _, h _ _ _ _⟩
theorem Itb.rng {r : Addr} {a n : Nat} {b : Int} {t u v : Tok} (hh : A.handled = none) (hr : (r, .obj (rngP a b t u v)) ∈ R) (hn : b = ((a + n : Nat) : Int) ∨ (n = 0 ∧ b ≤ a)) (hs : a + n < 1000000 ∧ -1000000 < b ∧ b < 1000000) :
    Itb C A (.ref r) ((List.range' a n).map fun k : Nat => V.int k) R := fun {z s w Q E} H d h => by
  obtain rfl := d.refI
  have hr' : IsRange s.heap r a b 1 t u v := (H.res _ hr).1
  have hsz : Builtin.Range.rangeSize (a : Int) b 1 = n := by rw [rangeSize_one]; split <;> lia
  refine wpAny_pyIter_range hr' (small_one (by lia) (by lia) (by lia) (by lia)) ?_
  rw [hsz]
  refine h _ (fun i o => o = { cls := .type "range_iterator", data := .fields #[rawInt ((a : Int) + i), rawInt ((n : Int) - i), rawInt 1] }) rfl ⟨?_, ?_, ?_⟩ ?_
  · intro z' R' s' i o Q E w e H' ho st hv tk hQ
    subst st
    rw [List.getElem?_map] at hv
    obtain ⟨k, hk, rfl⟩ := Option.map_eq_some_iff.mp hv
    have hi : i < n := by
      have := (List.getElem?_eq_some_iff.mp hk).1
      rwa [List.length_range'] at this
    have ek : k = a + i := by
      rw [List.getElem?_range' hi] at hk
      have := Option.some.inj hk
      lia
    have hit : IsRangeIter s'.heap s.heap.objs.size ((a : Int) + i) ((n : Int) - i) 1 := (H'.res _ ho).1
    refine wpAny_pyNext_range_item hit (by lia) fun h₂ hit₂ hs₂ => ?_
    refine hQ h₂ (s'.toks + 1) _ _ (Nat.succ_pos _) hs₂ hit₂ ?_ ?_
    · rw [show (a : Int) + i + 1 = (a : Int) + ((i + 1 : Nat) : Int) by lia, show (n : Int) - i - 1 = (n : Int) - ((i + 1 : Nat) : Int) by lia]
    · rw [ek, show (a : Int) + i = ((a + i : Nat) : Int) by lia]; exact .int _ _
  · intro z' R' s' o Q E e H' ho st hQ
    subst st
    rw [List.length_map, List.length_range'] at ho
    have hit : IsRangeIter s'.heap s.heap.objs.size ((a : Int) + n) ((n : Int) - n) 1 := (H'.res _ ho).1
    exact wpAny_pyNext_range_end hh hit (by lia) hQ
  · intro z' R' s' i o Q E H' ho st hQ
    subst st
    exact wpAny_pyIter_rangeiter ((H'.res _ ho).1 : IsRangeIter s'.heap s.heap.objs.size ((a : Int) + i) ((n : Int) - i) 1) hQ
  · simp
theorem Cl.maxI {a b : Int} (hh : A.handled = none) (h : Φ (.int (max a b)) R) : Cl C A (.bi "max") [.int a, .int b] R Φ := fun z s u us H t d ds => by
  obtain rfl := d.biI
  obtain ⟨_, _, rfl, q0, e0⟩ := ds.consI
  obtain ⟨_, rfl⟩ := q0.intI
  obtain ⟨_, _, rfl, q1, e1⟩ := e0.consI
  obtain ⟨_, rfl⟩ := q1.intI
  obtain rfl := e1.nilI
  refine max_two_ints hh fun h' tk hk => .mk (H.keep hk) ?_ h
  by_cases q : b > a
  · rw [if_pos q, Int.max_def, if_pos (by lia)]; exact .int _ _
  · rw [if_neg q, Int.max_def]; split
    · rw [show b = a by lia]; exact .int _ _
    · exact .int _ _
end
end Mine
end
section
open PySem PySem.W PyProof.Rows PySem.Calls PySem.Sre
set_option Elab.async false
set_option linter.unusedVariables false
set_option maxRecDepth 100000
namespace Mine
noncomputable def boundPat (p : Addr) : Obj := { cls := .type "builtin_function_or_method", data := .fields #[.builtin "re.Pattern.match", .ref p] }
noncomputable def isPat (t : Addr) (o : Obj) : Prop := ∃ a b i j k, o = { cls := .type "re.Pattern", data := .fields #[a, b, .int 0 i, j, k, .ref t, .int 0 0] }
structure PatAt (B : Heap) (q p t : Addr) (code : Array Nat) : Prop where
  bnd : B.get? q = some (boundPat p)
  pat : ∃ o, B.get? p = some o ∧ isPat t o
  tup : ∃ its n, B.get? t = some { cls := .type "tuple", data := .seq its n } ∧ (its.map Builtin.Re.reRawOf).map (·.toNat) = code
theorem owner_pat : Manifest.owners.lookup (String.ofList ['n', 'r', 'e', 't', 't', 'a', 'P', '.', 'e', 'r'].reverse) = some Manifest.sig_re_Pattern := by kernel_rfl
theorem owner_mat : Manifest.owners.lookup (String.ofList ['h', 'c', 't', 'a', 'M', '.', 'e', 'r'].reverse) = some Manifest.sig_re_Match := by kernel_rfl
theorem slot_mend : Slot "re.Match" "end" "re.Match.end" :=
  .of (owner := "re.Match") (n := "end") (by rw [typeLookup_type, builtinLookup_eq_fast]; kernel_rfl) (by decide +kernel) (by decide +kernel) (by decide +kernel)
    (by first | exact .inl (by decide +kernel) | exact .inr (by decide +kernel)) (by rw [isSubtype_type]; kernel_rfl)
theorem type_mend : typeOf (.builtin "re.Match.end") = pure (.type "method_descriptor") := by show builtinType _ = _; rw [builtinType_eq_fast]; kernel_rfl
theorem entry_mend : entryFor table "re.Match.end" = some Builtin.«re.Match.end» := entryFor_of_tree (by kernel_rfl)
theorem entry_match : entryFor table "re.Pattern.match" = some Builtin.«re.Pattern.match» := entryFor_of_tree (by kernel_rfl)
theorem pa_mat : PlainAttrs "re.Match" :=
  ⟨⟨"object.__getattribute__", by rw [typeLookup_type, builtinLookup_eq_fast]; kernel_rfl, by kernel_rfl⟩, by rw [typeLookup_type, builtinLookup_eq_fast]; kernel_rfl⟩
theorem meth_end : MethOf "re.Match" "end" "re.Match.end" := ⟨pa_mat, slot_mend, type_mend⟩
theorem args_mend (a : Value) : argsOk "re.Match.end" ⟨[a], []⟩ := by
  unfold argsOk; rw [signature?_of (id := "re.Match.end") (n := ['d', 'n', 'e']) (o := ['h', 'c', 't', 'a', 'M', '.', 'e', 'r']) (by kernel_rfl) owner_mat]; kernel_rfl
theorem match_args2 (a b c : Value) : (match Manifest.signature? "re.Pattern.match" with | some sig => Bind.checkArgs "re.Pattern.match" { sig with full := toString (Bind.lastOf "re.Pattern") ++ toString "." ++ toString (Bind.lastOf "re.Pattern.match") } ⟨[a, b, c], []⟩ | Option.none => pure ()) = pure () := by
  rw [signature?_of (id := "re.Pattern.match") (n := ['h', 'c', 't', 'a', 'm']) (o := ['n', 'r', 'e', 't', 't', 'a', 'P', '.', 'e', 'r']) (by kernel_rfl) owner_pat]; kernel_rfl
theorem match_args3 (a b c d : Value) : (match Manifest.signature? "re.Pattern.match" with | some sig => Bind.checkArgs "re.Pattern.match" { sig with full := toString (Bind.lastOf "re.Pattern") ++ toString "." ++ toString (Bind.lastOf "re.Pattern.match") } ⟨[a, b, c, d], []⟩ | Option.none => pure ()) = pure () := by
  rw [signature?_of (id := "re.Pattern.match") (n := ['h', 'c', 't', 'a', 'm']) (o := ['n', 'r', 'e', 't', 't', 'a', 'P', '.', 'e', 'r']) (by kernel_rfl) owner_pat]; kernel_rfl
theorem pat_mod : isSubtype (.type "re.Pattern") (.type "module") = pure false := by rw [isSubtype_type]; kernel_rfl
theorem kind_match : builtinKind "re.Pattern.match" = some .method := by decide +kernel
theorem va_match : Manifest.varargsMethods.contains "re.Pattern.match" = false := by decide +kernel
section
variable {C : Cx} {A : Around}
noncomputable def MatchOk (args : Args) : Prop := (match Manifest.signature? "re.Pattern.match" with | some sig => Bind.checkArgs "re.Pattern.match" { sig with full := toString (Bind.lastOf "re.Pattern") ++ toString "." ++ toString (Bind.lastOf "re.Pattern.match") } args | Option.none => pure ()) = pure ()
theorem check_match {M : Model} {s : Shared} {E : Value → Shared → Prop} {p : Addr} {xs : List Value} {o : Obj} {Q : Unit → Shared → Prop} {t : Addr} (ho : isPat t o) (hx : s.heap.get? p = some o) (hc : MatchOk ⟨.ref p :: xs, []⟩) (h : Q () s) :
    wpAny M A (checkBoundCall "re.Pattern.match" ⟨.ref p :: xs, []⟩) Q E s := by
  obtain ⟨a, b, i, j, k, rfl⟩ := ho
  have hT : s.TypeIs (.ref p) "re.Pattern" := ⟨_, hx, rfl⟩
  unfold checkBoundCall
  unfold MatchOk at hc
  cases hs : Manifest.signature? "re.Pattern.match" with
  | none => exact wpAny_pure h
  | some sig =>
    rw [hs] at hc
    dsimp only at hc ⊢
    rw [kind_match]
    dsimp only
    rw [if_neg (by decide)]
    refine wpAny_bind (wpAny_isInstance hT pat_mod ?_)
    rw [va_match, if_neg (by decide)]
    refine wpAny_bind (wpAny_bind ?_)
    refine wpAny_loadPart hx (wpAny_pure ?_)
    dsimp only
    rw [if_neg (by decide)]
    refine wpAny_bind (wpAny_typeOf hT ?_)
    dsimp only
    exact wpAny_of_eq hc h
theorem drive_is {M : Model} {s : Shared} {E : Value → Shared → Prop} {Q : Sre.M → Shared → Prop} : ∀ (T n : Nat) (m m' : Sre.M), Sre.M.runFor n m = m' → m'.outcome.isSome = true → n ≤ 4 * T → 0 < T → Q m' s → wpAny M A (Builtin.Re.reDrive T m) Q E s
  | 0, _, _, _, _, _, _, h, _ => absurd h (by decide)
  | T + 1, n, m, m', hn, ho, hT, _, h => by
    have stay : ∀ (k : Nat) (a : Sre.M), a.outcome.isSome = true → Sre.M.runFor k a = a := fun k a ha => by
      cases k with
      | zero => rfl
      | succ k => show (if a.outcome.isSome then a else _) = a; rw [if_pos ha]
    unfold Builtin.Re.reDrive
    show wpAny M A (if (Sre.M.runFor 4 m).outcome.isSome then pure (Sre.M.runFor 4 m) else _) Q E s
    by_cases hd : (Sre.M.runFor 4 m).outcome.isSome = true
    · rw [if_pos hd]
      have : Sre.M.runFor 4 m = m' := by
        by_cases h4 : n ≤ 4
        · rw [show (4 : Nat) = n + (4 - n) by lia, runFor_add, hn, stay _ _ ho]
        · rw [show n = 4 + (n - 4) by lia, runFor_add, stay _ _ hd] at hn
          exact hn
      rw [this]
      exact wpAny_pure h
    · rw [if_neg hd]
      have h4 : 4 < n := by
        refine Nat.lt_of_not_le fun h4 => hd ?_
        rw [show (4 : Nat) = n + (4 - n) by lia, runFor_add, hn, stay _ _ ho]; exact ho
      refine wpAny_bind (wpAny_rule (drive_is T (n - 4) _ m' ?_ ho (by lia) (by lia) h))
      rw [← runFor_add]; show Sre.M.runFor (4 + (n - 4)) m = m'; rw [show 4 + (n - 4) = n by lia]; exact hn
theorem seen_loop {M : Model} {s : Shared} {E : Value → Shared → Prop} {Q : PUnit → Shared → Prop} {m : Sre.M} (h : Q ⟨⟩ s) :
    wpAny M A (forIn (List.range Sre.names.size) PUnit.unit fun i _ => do
      if m.seen.has i then rule (Sre.names.getD i "")
      pure (ForInStep.yield PUnit.unit)) Q E s := by
  refine wpAny_forIn_list _ (fun _ _ s' => s' = s) Q (fun x rest b s' e => ?_) (fun b s' e => by subst e; exact h) _ _ rfl
  subst e
  by_cases hx : m.seen.has x = true
  · rw [if_pos hx]; exact wpAny_bind (wpAny_rule (wpAny_pure rfl))
  · rw [if_neg hx]; exact wpAny_pure rfl
end
structure Found (start e : Nat) (m : Sre.M) : Prop where
  h : m.handed = e
  s : m.start = start
  lm : m.lastmark = -1
  li : m.lastindex = -1
theorem run_end {M : Model} {A : Around} {s : Shared} {E : Value → Shared → Prop} {Q : Option Sre.M → Shared → Prop} {code text : Array Nat} {lim k start : Nat} {g : Cf} {o : Option Nat} {sn : Sre.Seen} (h : Endd code text lim k g o) (hk : k ≤ 5000000)
    (q : match o with | some e => ∀ m, Found start e m → Q (some m) s | none => Q none s) : wpAny M A (Builtin.Re.reRunToEnd (g.m code text lim start sn)) Q E s := by
  obtain ⟨n, hn, m, hm, ho⟩ := h start sn
  unfold Builtin.Re.reRunToEnd
  have hs : m.outcome.isSome = true := by
    cases o with
    | none => rw [ho]; rfl
    | some e => rw [ho.1]; rfl
  refine wpAny_bind (drive_is (2 ^ 64) n _ m hm hs (by lia) (by decide) ?_)
  refine wpAny_bind (seen_loop ?_)
  cases o with
  | none => rw [ho]; exact wpAny_pure q
  | some e => rw [ho.1]; exact wpAny_pure (q m ⟨ho.2.1, ho.2.2.1, ho.2.2.2.1, ho.2.2.2.2⟩)
noncomputable def mObj (sv : Value) (p tu : Addr) (pos lim : Nat) : Obj := { cls := .type "re.Match", data := .fields #[sv, .ref p, rawInt pos, rawInt lim, rawInt (-1), .ref tu] }
noncomputable def spObj (k e : Nat) : Obj := { cls := .type "tuple", data := .seq #[rawInt k, rawInt e] }
section
variable {C : Cx} {A : Around} {R : Led} {Φ : V → Led → Prop} {q p t : Addr} {code : Array Nat} {l : List Nat} {pos lim : Nat}
theorem ssize {s : Shared} {E : Value → Shared → Prop} {M : Model} {Q : Int → Shared → Prop} {i : Nat} {u : Tok} (hi : i < 2 ^ 63) (h : Q i s) : wpAny M A (Builtin.Re.reSsize (.int i u)) Q E s := by
  unfold Builtin.Re.reSsize
  refine wpAny_bind (wpAny_of_eq (a := (i : Int)) rfl ?_)
  rw [if_neg]
  · exact wpAny_pure h
  · rw [Bool.or_eq_true, decide_eq_true_eq, decide_eq_true_eq]
    lia
theorem target_rest {s : Shared} {E : Value → Shared → Prop} {a b j k : Value} {M : Model} {Q : Builtin.Re.ReTarget → Shared → Prop} {its : Array Value} {n : Nat} {x : Str} {tk : Tok} {z : Tok} {ps ls : Int} (hp : s.heap.get? p = some { cls := .type "re.Pattern", data := .fields #[a, b, .int 0 z, j, k, .ref t, .int 0 0] })
    (ht : s.heap.get? t = some { cls := .type "tuple", data := .seq its n }) (hc : (its.map Builtin.Re.reRawOf).map (·.toNat) = code)
    (hpos : min ps.toNat x.cps.size = pos) (hlim : min ls.toNat x.cps.size = lim)
    (h : Q { pattern := .ref p, string := .str x tk, code, text := x.cps, kind := 0, groups := 0, pos, lim } s) : wpAny M A (do
      let fs ← fieldsOf (.ref p)
      let (text, kind) ← Builtin.Re.reTextOf (.str x tk)
      let want := Builtin.Re.reRawNat (fs.getD 6 .none)
      if want == 0 && kind == 1 then raiseError "TypeError" "cannot use a string pattern on a bytes-like object"
      if want == 1 && kind == 0 then raiseError "TypeError" "cannot use a bytes pattern on a string-like object"
      Builtin.Re.reNoCollectionInside (.str x tk) kind
      let clip (i : Int) : Nat := min i.toNat text.size
      pure { pattern := .ref p, string := .str x tk, code := (← Builtin.Re.reRawItems (fs.getD 5 .none)).map (·.toNat), text, kind, groups := Builtin.Re.reRawNat (fs.getD 2 .none), pos := clip ps, lim := clip ls }) Q E s := by
  refine wpAny_bind (wpAny_fieldsOf hp rfl ?_)
  refine wpAny_bind (wpAny_of_eq (a := (x.cps, 0)) rfl ?_)
  dsimp only
  rw [show Builtin.Re.reRawNat ((#[a, b, Value.int 0 z, j, k, Value.ref t, Value.int 0 0] : Array Value).getD 6 Value.none) = 0 from rfl]
  rw [if_neg (show ¬ (((0 : Nat) == 0 && (0 : Nat) == 1) = true) by decide), if_neg (show ¬ (((0 : Nat) == 1 && (0 : Nat) == 0) = true) by decide)]
  refine wpAny_bind (wpAny_of_eq (a := ()) rfl ?_)
  unfold Builtin.Re.reRawItems
  refine wpAny_bind (wpAny_bind (wpAny_seqItems ht rfl (wpAny_pure (wpAny_pure ?_))))
  rw [← hc, ← hpos, ← hlim] at h
  exact h
theorem target2 {s : Shared} {E : Value → Shared → Prop} {a b j k : Value} {M : Model} {Q : Builtin.Re.ReTarget → Shared → Prop} {its : Array Value} {n : Nat} {x : Str} {tk u : Tok} {z : Tok} (hp : s.heap.get? p = some { cls := .type "re.Pattern", data := .fields #[a, b, .int 0 z, j, k, .ref t, .int 0 0] })
    (ht : s.heap.get? t = some { cls := .type "tuple", data := .seq its n }) (hc : (its.map Builtin.Re.reRawOf).map (·.toNat) = code) (hl : pos ≤ x.cps.size) (h63 : x.cps.size < 2 ^ 63 - 1)
    (h : Q { pattern := .ref p, string := .str x tk, code, text := x.cps, kind := 0, groups := 0, pos, lim := x.cps.size } s) : wpAny M A (Builtin.Re.reTarget "re.Pattern.match" "match" ⟨[.ref p, .str x tk, .int pos u], []⟩) Q E s := by
  unfold Builtin.Re.reTarget
  refine wpAny_bind (wpAny_of_eq (a := [some (.str x tk), some (.int pos u), none]) (by kernel_rfl) ?_)
  dsimp only
  refine wpAny_bind (ssize (by lia) ?_)
  refine wpAny_bind (wpAny_pure ?_)
  refine target_rest (a := a) (b := b) (j := j) (k := k) hp ht hc (by lia) (by lia) h
theorem target3 {s : Shared} {E : Value → Shared → Prop} {a b j k : Value} {M : Model} {Q : Builtin.Re.ReTarget → Shared → Prop} {its : Array Value} {n : Nat} {x : Str} {tk u u' : Tok} {z : Tok} (hp : s.heap.get? p = some { cls := .type "re.Pattern", data := .fields #[a, b, .int 0 z, j, k, .ref t, .int 0 0] })
    (ht : s.heap.get? t = some { cls := .type "tuple", data := .seq its n }) (hc : (its.map Builtin.Re.reRawOf).map (·.toNat) = code) (hl : pos ≤ x.cps.size) (hl' : lim ≤ x.cps.size) (h63 : x.cps.size < 2 ^ 63 - 1)
    (h : Q { pattern := .ref p, string := .str x tk, code, text := x.cps, kind := 0, groups := 0, pos, lim } s) : wpAny M A (Builtin.Re.reTarget "re.Pattern.match" "match" ⟨[.ref p, .str x tk, .int pos u, .int lim u'], []⟩) Q E s := by
  unfold Builtin.Re.reTarget
  refine wpAny_bind (wpAny_of_eq (a := [some (.str x tk), some (.int pos u), some (.int lim u')]) (by kernel_rfl) ?_)
  dsimp only
  refine wpAny_bind (ssize (by lia) ?_)
  refine wpAny_bind (ssize (by lia) ?_)
  refine target_rest (a := a) (b := b) (j := j) (k := k) hp ht hc (by lia) (by lia) h
end
theorem begin_is {c : Bool} {m m' : Sre.M} (hc : c = false) (h : m = m') : (if c then M.say m false else m) = m' := by rw [hc]; exact h
theorem fm2 {text : Array Nat} {pos lim : Nat} (h : pos < lim) : ∃ sn, Sre.forMatch c2 text 0 pos lim false false = Cf.m ⟨5, pos, pos, true, #[], none, [], none⟩ c2 text lim pos sn :=
  ⟨_, begin_is (c := (1 : Nat) != 0 && decide (pos ≤ lim) && decide (lim - pos < 1)) (by simp; lia) rfl⟩
theorem fm6 {text : Array Nat} {pos lim : Nat} (h : pos < lim) : ∃ sn, Sre.forMatch c6 text 0 pos lim false false = Cf.m ⟨5, pos, pos, true, #[], none, [], none⟩ c6 text lim pos sn :=
  ⟨_, begin_is (c := (1 : Nat) != 0 && decide (pos ≤ lim) && decide (lim - pos < 1)) (by simp; lia) rfl⟩
theorem fm3 {text : Array Nat} {pos lim : Nat} (h : pos < lim) : ∃ sn, Sre.forMatch c3 text 0 pos lim false false = Cf.m ⟨10, pos, pos, true, #[], none, [], none⟩ c3 text lim pos sn :=
  ⟨_, begin_is (c := (1 : Nat) != 0 && decide (pos ≤ lim) && decide (lim - pos < 1)) (by simp; lia) rfl⟩
noncomputable def MPost (o : Option Nat) (p : Addr) (pos lim : Nat) (Φ : V → Led → Prop) (R : Led) : Prop := match o with
  | some e => ∀ m tu sv, Φ (.ref m) ((m, .obj (mObj sv p tu pos lim)) :: (tu, .obj (spObj pos e)) :: R)
  | none => Φ .none R
section
variable {C : Cx} {A : Around} {R : Led} {Φ : V → Led → Prop} {q p t : Addr} {code : Array Nat} {l : List Nat} {pos lim : Nat}
theorem match_gen {z : Fz} {s : Shared} {xs : List Value} {tk : Tok} {st k : Nat} {o : Option Nat} (P : PatAt C.B q p t code) (H : Rel C z R s) (hxs : MatchOk ⟨.ref p :: xs, []⟩)
    (hF : ∃ sn, Sre.forMatch code l.toArray 0 pos lim false false = Cf.m ⟨st, pos, pos, true, #[], none, [], none⟩ code l.toArray lim pos sn) (hE : Endd code l.toArray lim k ⟨st, pos, pos, true, #[], none, [], none⟩ o) (hk : k ≤ 5000000)
    (hT : ∀ (A : Around) (Q : Builtin.Re.ReTarget → Shared → Prop), Q { pattern := .ref p, string := .str (S l) tk, code, text := l.toArray, kind := 0, groups := 0, pos, lim } s → wpAny C.M A (Builtin.Re.reTarget "re.Pattern.match" "match" ⟨.ref p :: xs, []⟩) Q NoE s)
    (h : MPost o p pos lim Φ R) : wpAny C.M A (call (.ref q) xs) (VPost C z Φ) NoE s := by
  have ho := H.keepB _ _ P.bnd
  obtain ⟨po, hp, ip⟩ := P.pat
  have hp := H.keepB _ _ hp
  refine wpAny_call (codeAny_of_tree ?_)
  show wpAny _ A.in1 (callAny (.ref q) ⟨xs, []⟩) _ _ s
  simp only [callAny]
  refine wpAny_bind (wpAny_load ho ?_)
  simp only [boundPat, show (Value.type "builtin_function_or_method" == Value.type "method" || Value.type "builtin_function_or_method" == Value.type "builtin_function_or_method" || Value.type "builtin_function_or_method" == Value.type "method-wrapper") = true by decide, if_true]
  refine KFB.if_so (by decide) ?_
  refine wpAny_bind (check_match ip hp hxs ?_)
  refine wpAny_bind (wpAny_pure (wpAny_pure ?_))
  refine ⟨Code.quiet_builtin _ (by decide +kernel), codeAny_builtin entry_match ?_⟩
  unfold Builtin.«re.Pattern.match»
  refine wpAny_bind (hT _ _ ?_)
  dsimp only
  unfold Builtin.Re.reAnswer
  obtain ⟨sn, hF⟩ := hF
  rw [hF]
  refine wpAny_bind (run_end hE hk ?_)
  cases o with
  | none => exact wpAny_bind (wpAny_pure (wpAny_pure (.mk H .none h)))
  | some e =>
    intro m f
    dsimp only
    unfold Builtin.Re.reNewMatch
    refine wpAny_bind ?_
    refine KFB.if_not (by rfl) ?_
    rw [f.h, f.s, f.li]
    refine wpAny_bind (wpAny_newTuple ?_ (by show 2 ≤ sizeLine; rw [sizeLine_eq]; decide))
    refine wpAny_newObj_type ?_
    refine wpAny_pure ?_
    have H1 : Rel C z ((s.heap.objs.size, .obj (spObj pos e)) :: R) { s with heap := s.heap.push (spObj pos e) } := H.pushR (Heap.get?_push_size _ rfl)
    have H2 := H1.pushR (o := mObj (.str (S l) tk) p s.heap.objs.size pos lim) (r := .obj (mObj (.str (S l) tk) p s.heap.objs.size pos lim)) (Heap.get?_push_size _ rfl)
    exact .mk H2 (.ref _) (h _ _ _)
theorem Cl.match2 {st k : Nat} {o : Option Nat} (P : PatAt C.B q p t code) (hl : l.length ≤ 100000) (hpos : pos < l.length)
    (hF : ∃ sn, Sre.forMatch code l.toArray 0 pos l.length false false = Cf.m ⟨st, pos, pos, true, #[], none, [], none⟩ code l.toArray l.length pos sn) (hE : Endd code l.toArray l.length k ⟨st, pos, pos, true, #[], none, [], none⟩ o) (hk : k ≤ 5000000)
    (h : MPost o p pos l.length Φ R) : Cl C A (.ref q) [.str (S l), .int pos] R Φ := fun z s u us H tt d ds => by
  obtain rfl := d.refI
  obtain ⟨_, _, rfl, d11, es1⟩ := ds.consI
  obtain ⟨_, rfl⟩ := d11.strI
  obtain ⟨_, _, rfl, d12, es2⟩ := es1.consI
  obtain ⟨_, rfl⟩ := d12.intI
  obtain rfl := es2.nilI
  obtain ⟨po, hp, a, b, i, j, k', rfl⟩ := P.pat
  obtain ⟨its, n, ht, hc⟩ := P.tup
  exact match_gen P H (match_args2 _ _ _) hF hE hk (fun A Q hq => target2 (x := S l) (H.keepB _ _ hp) (H.keepB _ _ ht) hc (Nat.le_of_lt hpos) (show l.length < 2 ^ 63 - 1 by lia) hq) h
theorem Cl.match3 {st k : Nat} {o : Option Nat} (P : PatAt C.B q p t code) (hl : l.length ≤ 100000) (hpos : pos < lim) (hlim : lim ≤ l.length)
    (hF : ∃ sn, Sre.forMatch code l.toArray 0 pos lim false false = Cf.m ⟨st, pos, pos, true, #[], none, [], none⟩ code l.toArray lim pos sn) (hE : Endd code l.toArray lim k ⟨st, pos, pos, true, #[], none, [], none⟩ o) (hk : k ≤ 5000000)
    (h : MPost o p pos lim Φ R) : Cl C A (.ref q) [.str (S l), .int pos, .int lim] R Φ := fun z s u us H tt d ds => by
  obtain rfl := d.refI
  obtain ⟨_, _, rfl, d11, es1⟩ := ds.consI
  obtain ⟨_, rfl⟩ := d11.strI
  obtain ⟨_, _, rfl, d12, es2⟩ := es1.consI
  obtain ⟨_, rfl⟩ := d12.intI
  obtain ⟨_, _, rfl, d13, es3⟩ := es2.consI
  obtain ⟨_, rfl⟩ := d13.intI
  obtain rfl := es3.nilI
  obtain ⟨po, hp, a, b, i, j, k', rfl⟩ := P.pat
  obtain ⟨its, n, ht, hc⟩ := P.tup
  exact match_gen P H (match_args3 _ _ _ _) hF hE hk (fun A Q hq => target3 (x := S l) (H.keepB _ _ hp) (H.keepB _ _ ht) hc (show pos ≤ l.length by lia) hlim (show l.length < 2 ^ 63 - 1 by lia) hq) h
theorem Kpr.pat {mg : Str → Option Value} (P : PatAt C.B q p t code) : Kpr C R (.ref q) := fun z s u H d => by
  obtain rfl := d.refI
  refine ⟨.machine, .inr (.inl rfl), (Looks.ld (part := Option.none) (H.keepB _ _ P.bnd)).andThen ?_⟩
  unfold boundPat
  simp only [show (Value.type "builtin_function_or_method" != Value.type "method") = true by decide, show (Value.type "builtin_function_or_method" == Value.type "builtin_function_or_method" || Value.type "builtin_function_or_method" == Value.type "method-wrapper") = true by decide, if_true]
  exact .now
theorem TyIs.mat {m tu : Addr} {sv : Value} (h : (m, .obj (mObj sv p tu pos lim)) ∈ R) : TyIs C R "re.Match" (.ref m) := fun z s u H d => by
  obtain rfl := d.refI
  exact ⟨⟨_, (H.res _ h).1, rfl⟩, fun b e => by cases e; exact ⟨_, (H.res _ h).1, rfl⟩⟩
theorem Cl.endM {m tu : Addr} {sv : Value} {e : Nat} (h1 : (m, .obj (mObj sv p tu pos lim)) ∈ R) (h2 : (tu, .obj (spObj pos e)) ∈ R) (h : Φ (.int e) R) : Cl C A (.bi "re.Match.end") [.ref m] R Φ := fun z s u us H tt d ds => by
  obtain rfl := d.biI
  obtain ⟨_, _, rfl, d1, e1⟩ := ds.consI
  obtain rfl := d1.refI
  obtain rfl := e1.nilI
  have hm : s.heap.get? m = some (mObj sv p tu pos lim) := (H.res _ h1).1
  have ht : s.heap.get? tu = some (spObj pos e) := (H.res _ h2).1
  refine wpAny_call_entry slot_mend ⟨_, hm, rfl⟩ entry_mend ?_ (args_mend _)
  unfold Builtin.«re.Match.end» Builtin.Re.reOneGroup
  refine wpAny_bind (wpAny_bind (wpAny_of_eq (a := (.ref m, [])) (by kernel_rfl) ?_))
  dsimp only
  unfold Builtin.Re.reFound Builtin.Re.reRawItems
  refine wpAny_bind (wpAny_bind (wpAny_fieldsOf hm rfl ?_))
  refine wpAny_bind (wpAny_bind (wpAny_seqItems ht rfl (wpAny_pure (wpAny_pure (wpAny_pure ?_)))))
  have he : ((#[rawInt pos, rawInt e] : Array Value).map Builtin.Re.reRawOf).getD 1 (-1) = (e : Int) := by simp [rawInt, Builtin.Re.reRawOf]
  show wpAny _ _ (retInt (((#[rawInt pos, rawInt e] : Array Value).map Builtin.Re.reRawOf).getD 1 (-1))) _ _ _
  rw [he]
  unfold retInt
  exact wpAny_bind (wpAny_mkInt (wpAny_pure ⟨_, rfl, .mk (H.toks _) (.int _ _) h⟩))
end
end Mine
end
section
open PySem PySem.W PyProof.Rows PySem.Calls PySem.Builtin PySem.Builtin.Str
set_option Elab.async false
set_option linter.unusedVariables false
set_option maxRecDepth 100000
namespace Mine
theorem at_S {l : List Nat} {c hi i : Nat} (hhi : hi ≤ l.length) : StrLaws.At (S l) (S [c]) hi i ↔ i < hi ∧ l[i]? = some c := by
  unfold StrLaws.At
  rw [StrLaws.subAt_eq, show (S [c]).length = 1 from rfl, S_cps, S_cps, beq_iff_eq]
  constructor
  · rintro ⟨h1, h2⟩
    refine ⟨by lia, ?_⟩
    have hlt : i < l.length := by lia
    rw [List.drop_eq_getElem_cons hlt, List.take_succ_cons, List.take_zero] at h2
    rw [List.getElem?_eq_getElem hlt]
    exact congrArg some (List.cons.inj h2).1
  · rintro ⟨h1, h2⟩
    refine ⟨by lia, ?_⟩
    have hlt : i < l.length := by lia
    rw [List.getElem?_eq_getElem hlt] at h2
    rw [List.drop_eq_getElem_cons hlt, List.take_succ_cons, List.take_zero, Option.some.inj h2]
theorem occ_S {l : List Nat} {c lo hi k : Nat} (hhi : hi ≤ l.length) (h1 : lo ≤ k) (h2 : k < hi) (h3 : l[k]? = some c) (h4 : ∀ j, lo ≤ j → j < k → l[j]? ≠ some c) : ∃ r, occurrences (S l) (S [c]) lo hi 1 = k :: r := by
  rw [StrLaws.occ_eq]
  rcases StrLaws.occ_first (S l) (S [c]) hi 1 (Nat.le_refl _) (List.range' lo (hi + 1 - lo)) lo (fun i hi => by have := List.mem_range'_1.mp hi; lia) with ⟨h0, hn⟩ | ⟨pre, a, post, e, h0, ha, hn⟩
  · exact absurd ((at_S hhi).mpr ⟨h2, h3⟩) (hn k (by rw [List.mem_range'_1]; lia))
  · have hs := StrLaws.range'_split_from e
    obtain ⟨ha1, ha2⟩ := (at_S hhi).mp ha
    have hak : a = k := by
      rcases Nat.lt_trichotomy a k with h | h | h
      · exact absurd ha2 (h4 a hs.1 h)
      · exact h
      · exact absurd ((at_S hhi).mpr ⟨h2, h3⟩) (hn k (hs.2 k h1 h))
    subst hak
    generalize (forIn (List.range' lo (hi + 1 - lo)) ((#[] : Array Nat), lo) (StrLaws.occBody (S l) (S [c]) hi 1)).run.fst = arr at h0
    have h5 : arr.toList[0]? = some a := by simpa using h0
    cases hL : arr.toList with
    | nil => rw [hL] at h5; cases h5
    | cons b t => rw [hL] at h5; simp at h5; exact ⟨t, by rw [h5]⟩
theorem last_S {l : List Nat} {c hi : Nat} (hhi : hi ≤ l.length) : (lastOccurrence (S l) (S [c]) 0 hi = none ∧ ∀ j, j < hi → l[j]? ≠ some c) ∨
    ∃ k, lastOccurrence (S l) (S [c]) 0 hi = some k ∧ k < hi ∧ l[k]? = some c ∧ ∀ j, k < j → j < hi → l[j]? ≠ some c := by
  rw [StrLaws.last_eq]
  have key := StrLaws.last_run (S l) (S [c]) hi (List.range' 0 (hi + 1 - 0)) [] none (fun _ h => nomatch h) (fun _ h => nomatch h) (by simpa using List.pairwise_lt_range' (s := 0) (n := hi + 1 - 0))
  have mem : ∀ i, i < hi → i ∈ [] ++ List.range' 0 (hi + 1 - 0) := fun i hi => by simp [List.mem_range']; lia
  cases hr : (forIn (List.range' 0 (hi + 1 - 0)) none (StrLaws.lastBody (S l) (S [c]) hi)).run with
  | none => rw [hr] at key; exact .inl ⟨rfl, fun j hj e => key j (mem j hj) ((at_S hhi).mpr ⟨hj, e⟩)⟩
  | some a =>
    rw [hr] at key
    obtain ⟨h1, h2⟩ := (at_S hhi).mp key.1
    exact .inr ⟨a, rfl, h1, h2, fun j hj hj' e => key.2 j (mem j hj') hj ((at_S hhi).mpr ⟨hj', e⟩)⟩
theorem gives_rfind4 (x y : Str) (i j : Int) (t u v w : Tok) : Gives («str.rfind» ⟨[.str x t, .str y u, .int i v, .int j w], []⟩) (.int (match lastOccurrence x y (fromIndex x.length i) (min (fromIndex x.length j) x.length) with | some k => (k : Int) | none => -1)) := by
  show Gives (match lastOccurrence x y (fromIndex x.length i) (min (fromIndex x.length j) x.length) with | some k => retInt k | none => (do rule "str.rfind.not-found"; retInt (-1))) _
  cases lastOccurrence x y (fromIndex x.length i) (min (fromIndex x.length j) x.length) with
  | none => exact .rule (.of_eq rfl)
  | some k => exact .of_eq rfl
theorem gives_find4 (x y : Str) (i j : Int) (t u v w : Tok) : Gives («str.find» ⟨[.str x t, .str y u, .int i v, .int j w], []⟩) (.int (match occurrences x y (fromIndex x.length i) (min (fromIndex x.length j) x.length) 1 with | k :: _ => (k : Int) | [] => -1)) := by
  show Gives (match occurrences x y (fromIndex x.length i) (min (fromIndex x.length j) x.length) 1 with | k :: _ => retInt k | [] => (do rule "str.find.not-found"; retInt (-1))) _
  cases occurrences x y (fromIndex x.length i) (min (fromIndex x.length j) x.length) 1 with
  | nil => exact .rule (.of_eq rfl)
  | cons k _ => exact .of_eq rfl
theorem gives_index3 (x y : Str) (i : Int) (t u v : Tok) (k : Nat) (rest : List Nat) (h : occurrences x y (fromIndex x.length i) x.length 1 = k :: rest) : Gives («str.index» ⟨[.str x t, .str y u, .int i v], []⟩) (.int k) := by
  show Gives (match occurrences x y (fromIndex x.length i) (min x.length x.length) 1 with | k :: _ => retInt k | [] => (do rule "str.index.not-found"; raiseError "ValueError" "substring not found")) _
  rw [Nat.min_self, h]
  exact .of_eq rfl
theorem from_nat (n i : Nat) : fromIndex n (i : Int) = i := by unfold fromIndex; rw [if_neg (by lia)]; lia
section
variable {C : Cx} {A : Around} {R : Led} {Φ : V → Led → Prop} {l : List Nat} {c : Nat}
theorem Cl.rfind4 {hi : Nat} (hhi : hi ≤ l.length) (h0 : (∀ j, j < hi → l[j]? ≠ some c) → Φ (.int (-1)) R) (h1 : ∀ k : Nat, k < hi → l[k]? = some c → (∀ j, k < j → j < hi → l[j]? ≠ some c) → Φ (.int k) R) :
    Cl C A (.bi "str.rfind") [.str (S l), .str (S [c]), .int 0, .int (hi : Nat)] R Φ := fun z s f us H t d ds => by
  obtain rfl := d.biI
  obtain ⟨_, _, rfl, q0, e0⟩ := ds.consI
  obtain ⟨_, rfl⟩ := q0.strI
  obtain ⟨_, _, rfl, q1, e1⟩ := e0.consI
  obtain ⟨_, rfl⟩ := q1.strI
  obtain ⟨_, _, rfl, q2, e2⟩ := e1.consI
  obtain ⟨_, rfl⟩ := q2.intI
  obtain ⟨_, _, rfl, q3, e3⟩ := e2.consI
  obtain ⟨_, rfl⟩ := q3.intI
  obtain rfl := e3.nilI
  refine call_gives F.slot_str_rfind (typeIs_str _ _ _) F.entry_str_rfind (F.args_str_rfind_4 _ _ _ _) (gives_rfind4 _ _ _ _ _ _ _ _) ?_
  show VPost C z Φ _ _
  rw [from_nat, S_len, Nat.min_eq_left hhi, show fromIndex l.length 0 = 0 from rfl]
  rcases last_S (l := l) (c := c) hhi with ⟨e, q⟩ | ⟨k, e, q1, q2, q3⟩
  · rw [e]; exact .mk (H.toks _) (.int _ _) (h0 q)
  · rw [e]; exact .mk (H.toks _) (.int _ _) (h1 k q1 q2 q3)
theorem Cl.find4 {lo hi k : Nat} (hhi : hi ≤ l.length) (h1 : lo ≤ k) (h2 : k < hi) (h3 : l[k]? = some c) (h4 : ∀ j, lo ≤ j → j < k → l[j]? ≠ some c) (h : Φ (.int k) R) :
    Cl C A (.bi "str.find") [.str (S l), .str (S [c]), .int (lo : Nat), .int (hi : Nat)] R Φ := fun z s f us H t d ds => by
  obtain rfl := d.biI
  obtain ⟨_, _, rfl, q0, e0⟩ := ds.consI
  obtain ⟨_, rfl⟩ := q0.strI
  obtain ⟨_, _, rfl, q1, e1⟩ := e0.consI
  obtain ⟨_, rfl⟩ := q1.strI
  obtain ⟨_, _, rfl, q2, e2⟩ := e1.consI
  obtain ⟨_, rfl⟩ := q2.intI
  obtain ⟨_, _, rfl, q3, e3⟩ := e2.consI
  obtain ⟨_, rfl⟩ := q3.intI
  obtain rfl := e3.nilI
  refine call_gives F.slot_str_find (typeIs_str _ _ _) F.entry_str_find (F.args_str_find_4 _ _ _ _) (gives_find4 _ _ _ _ _ _ _ _) ?_
  show VPost C z Φ _ _
  obtain ⟨r, e⟩ := occ_S (l := l) (c := c) hhi h1 h2 h3 h4
  rw [from_nat, from_nat, S_len, Nat.min_eq_left hhi, e]
  exact .mk (H.toks _) (.int _ _) h
theorem Cl.index3 {lo k : Nat} (h1 : lo ≤ k) (h2 : k < l.length) (h3 : l[k]? = some c) (h4 : ∀ j, lo ≤ j → j < k → l[j]? ≠ some c) (h : Φ (.int k) R) :
    Cl C A (.bi "str.index") [.str (S l), .str (S [c]), .int (lo : Nat)] R Φ := fun z s f us H t d ds => by
  obtain rfl := d.biI
  obtain ⟨_, _, rfl, q0, e0⟩ := ds.consI
  obtain ⟨_, rfl⟩ := q0.strI
  obtain ⟨_, _, rfl, q1, e1⟩ := e0.consI
  obtain ⟨_, rfl⟩ := q1.strI
  obtain ⟨_, _, rfl, q2, e2⟩ := e1.consI
  obtain ⟨_, rfl⟩ := q2.intI
  obtain rfl := e2.nilI
  obtain ⟨r, e⟩ := occ_S (l := l) (c := c) (Nat.le_refl _) h1 h2 h3 h4
  refine call_gives F.slot_str_index (typeIs_str _ _ _) F.entry_str_index (F.args_str_index_3 _ _ _) (gives_index3 _ _ _ _ _ _ k r (by rw [from_nat, S_len]; exact e)) ?_
  exact .mk (H.toks _) (.int _ _) h
theorem sub_S (a b : Nat) : strSub (S l) a b = S ((l.drop a).take (b - a)) := by
  rw [← S_of (strSub (S l) a b), StrLaws.strSub_toList, S_cps]
theorem drop_while (P : Nat → Bool) : ∀ l : List Nat, l.drop (l.takeWhile P).length = l.dropWhile P
  | [] => rfl
  | a :: l => by
    rw [List.takeWhile_cons, List.dropWhile_cons]
    cases P a with
    | true => simp only [if_true, List.length_cons, List.drop_succ_cons]; exact drop_while P l
    | false => rfl
theorem Cl.lstrip {cs : List Nat} (hl : l.length ≤ 100000) (h : Φ (.str (S (l.dropWhile fun c => decide (c ∈ cs)))) R) : Cl C A (.bi "str.lstrip") [.str (S l), .str (S cs)] R Φ := fun z s f us H t d ds => by
  obtain rfl := d.biI
  obtain ⟨_, _, rfl, q0, e0⟩ := ds.consI
  obtain ⟨_, rfl⟩ := q0.strI
  obtain ⟨_, _, rfl, q1, e1⟩ := e0.consI
  obtain ⟨_, rfl⟩ := q1.strI
  obtain rfl := e1.nilI
  refine call_gives F.slot_str_lstrip (typeIs_str _ _ _) F.entry_str_lstrip (F.args_str_lstrip_2 _ _) (gives_str_lstrip_chars _ _ _ _) ?_
  have hP : (S cs).cps.contains = fun c => decide (c ∈ cs) := by
    funext c
    show (cs.toArray).contains c = _
    rw [List.contains_toArray]; simp
  rw [hP]
  have hlo : stripLo (fun c => decide (c ∈ cs)) true (S l) = (l.takeWhile fun c => decide (c ∈ cs)).length := by
    unfold stripLo; rw [if_pos rfl, S_cps]
  have hst : PySem.stripped (fun c => decide (c ∈ cs)) true false (S l) = S (l.dropWhile fun c => decide (c ∈ cs)) := by
    unfold PySem.stripped stripHi
    rw [hlo, if_neg Bool.false_ne_true, sub_S, S_len, drop_while, List.take_of_length_le]
    rw [← drop_while, List.length_drop]
    lia
  by_cases hs : stripSame (fun c => decide (c ∈ cs)) true false (S l) = true
  · rw [if_pos hs]
    have h0 : (l.takeWhile fun c => decide (c ∈ cs)).length = 0 := by
      unfold stripSame at hs
      rw [hlo, Bool.and_eq_true, beq_iff_eq] at hs
      exact hs.1
    rw [← drop_while, h0, List.drop_zero] at h
    exact .mk H (.str _ _) h
  · rw [if_neg hs, hst]
    refine ⟨?_, .mk (H.toks _) (.str _ _) h⟩
    rw [S_len, ← drop_while, List.length_drop, sizeLine_eq]
    lia
theorem Cl.strip1 {l : List Nat} (hl : l.length ≤ 1) (h : Φ (.str (S (if l.all Unicode.isSpace then [] else l))) R) : Cl C A (.bi "str.strip") [.str (S l)] R Φ := fun z s f us H t d ds => by
  obtain rfl := d.biI
  obtain ⟨_, _, rfl, q0, e0⟩ := ds.consI
  obtain ⟨_, rfl⟩ := q0.strI
  obtain rfl := e0.nilI
  refine call_gives F.slot_str_strip (typeIs_str _ _ _) F.entry_str_strip (F.args_str_strip_1 _) (gives_str_strip _ _) ?_
  match l, hl with
  | [], _ => 
    rw [if_pos (show stripSame Unicode.isSpace true true (S []) = true from rfl)]
    exact .mk H (.str _ _) h
  | [c], _ =>
    rw [List.all_cons, List.all_nil, Bool.and_true] at h
    cases hc : Unicode.isSpace c with
    | true =>
      rw [hc, if_pos rfl] at h
      have h1 : stripLo Unicode.isSpace true (S [c]) = 1 := by
        unfold stripLo; rw [if_pos rfl, S_cps, List.takeWhile_cons, hc]; rfl
      have h2 : stripSame Unicode.isSpace true true (S [c]) = false := by unfold stripSame; rw [h1]; rfl
      have h3 : PySem.stripped Unicode.isSpace true true (S [c]) = S [] := by unfold PySem.stripped; rw [h1, sub_S]; rfl
      rw [if_neg (by rw [h2]; decide), h3]
      exact ⟨by rw [sizeLine_eq]; decide, .mk (H.toks _) (.str _ _) h⟩
    | false =>
      rw [hc, if_neg Bool.false_ne_true] at h
      have h1 : stripLo Unicode.isSpace true (S [c]) = 0 := by
        unfold stripLo; rw [if_pos rfl, S_cps, List.takeWhile_cons, hc]; rfl
      have h2 : stripSame Unicode.isSpace true true (S [c]) = true := by
        unfold stripSame stripHi
        rw [h1, if_pos rfl, S_cps, List.drop_zero]
        show ((0 : Nat) == 0 && (1 - ([c].takeWhile Unicode.isSpace).length == 1)) = true
        rw [List.takeWhile_cons, hc]; rfl
      rw [if_pos h2]
      exact .mk H (.str _ _) h
theorem Cmp.inC {d : Nat} {Φ : Bool → Led → Prop} (h : Φ (decide (d ∈ l)) R) : Cmp C A .In (.str (S [d])) (.str (S l)) R Φ :=
  Cmp.inS (by rw [show S [d] = ⟨#[d]⟩ from rfl, StrLaws.found_one, S_cps]; exact h)
end
end Mine
end
section
open PySem PySem.W PyProof.Rows PySem.Calls
set_option Elab.async false
set_option linter.unusedVariables false
set_option maxRecDepth 100000
namespace Mine
theorem noBool_mat : typeLookup (.type "re.Match") (Str.ofString "__bool__") = pure none := by rw [typeLookup_type, builtinLookup_eq_fast]; kernel_rfl
theorem noLen_mat : typeLookup (.type "re.Match") (Str.ofString "__len__") = pure none := by rw [typeLookup_type, builtinLookup_eq_fast]; kernel_rfl
theorem filterMap_rev {α : Type} (a : Array α) : ∀ n, n ≤ a.size → ((List.range n).map fun k : Nat => n - 1 - k).filterMap (a[·]?) = (a.toList.take n).reverse
  | 0, _ => by simp
  | n + 1, h => by
    have hlt : n < a.size := by lia
    rw [List.range_succ_eq_map, List.map_cons, List.map_map, List.filterMap_cons]
    have e : ((fun k : Nat => n + 1 - 1 - k) ∘ Nat.succ) = fun k : Nat => n - 1 - k := by funext k; simp; lia
    rw [e, filterMap_rev a n (by lia)]
    have hg : a[n + 1 - 1 - 0]? = some a[n] := by simp
    simp only [hg]
    rw [List.take_add_one, List.reverse_append]
    have : a.toList[n]? = some a[n] := by simp
    rw [this]; rfl
theorem slicePick_rev (a : Array Value) : slicePick a none none (some (-1)) = a.toList.reverse.toArray := by
  unfold slicePick
  show ((sliceRange ((a.size : Int) - 1) (-1) (-1)).filterMap (a[·]?)).toArray = _
  have h := filterMap_rev a a.size (Nat.le_refl _)
  rw [List.take_of_length_le (by simp)] at h
  rw [← h]
  congr 2
  unfold sliceRange
  rw [if_neg (by decide)]
  by_cases h0 : 0 < a.size
  · rw [if_pos (show (a.size : Int) - 1 > -1 by lia)]
    dsimp only
    rw [show (((a.size : Int) - 1 - -1 - -1 - 1) / - -1).toNat = a.size by rw [show (- -1 : Int) = 1 from rfl, Int.ediv_one]; lia]
    refine List.map_congr_left fun k hk => ?_
    have := List.mem_range.mp hk
    lia
  · rw [if_neg (show ¬ ((a.size : Int) - 1 > -1) by lia)]
    rw [show a.size = 0 by lia]; rfl
section
variable {C : Cx} {A : Around} {env : Env} {R : Led} {mg mb : Str → Option Value} {Φ : V → Led → Prop} {Ψ : Fl → Led → Prop} {pos : Pos} {p : Addr} {ps lim : Nat}
theorem Tr.mat {m tu : Addr} {sv : Value} {Φ : Bool → Led → Prop} (h1 : (m, .obj (mObj sv p tu ps lim)) ∈ R) (h : Φ true R) : Tr C A (.ref m) R Φ := fun z s u H t d => by
  obtain rfl := d.refI
  have hm : s.heap.get? m = some (mObj sv p tu ps lim) := (H.res _ h1).1
  have hT : s.TypeIs (.ref m) "re.Match" := ⟨_, hm, rfl⟩
  unfold truthy
  first
    | refine wpAny_bind (wpAny_callSpecial?_none (name := Str.ofString "__bool__") hT noBool_mat ?_)
    | refine wpAny_bind (wpAny_pure (wpAny_bind (wpAny_callSpecial?_none (name := Str.ofString "__bool__") hT noBool_mat ?_)))
  first
    | refine wpAny_bind (wpAny_specialOf (name := Str.ofString "__len__") hT noLen_mat ?_)
    | refine wpAny_bind (wpAny_pure (wpAny_bind (wpAny_specialOf (name := Str.ofString "__len__") hT noLen_mat ?_)))
  exact wpAny_pure ⟨z, R, Ext.refl _, H, h⟩
theorem Tr.lst {v : V} {vs : List V} {Φ : Bool → Led → Prop} (l : LstOf R v vs) (hl : vs.length ≤ 100000) (h : Φ (!vs.isEmpty) R) : Tr C A v R Φ := fun z s u H t d => by
  obtain ⟨a, items, rfl, h1, d1⟩ := l.is H d
  have hsz : items.size = vs.length := by rw [← Array.length_toList]; exact d1.length
  refine wpAny_truthy_list h1 (by lia) ⟨z, R, Ext.refl _, H.toks _, ?_⟩
  have : items.isEmpty = vs.isEmpty := by
    cases vs with
    | nil => simp only [List.length_nil] at hsz; simp [Array.isEmpty, hsz]
    | cons x xs => simp only [List.length_cons] at hsz; simp [Array.isEmpty, hsz]
  rw [this]; exact h
theorem Ex1.delLast {x : Str} {xp p1 p2 : Pos} {i : Expr} {a : Addr} {vs : List V} {v : V} {R' : Led} (h : Ev C A env (.Name x xp) R fun o R₁ => o = .ref a ∧ Ev C A env i R₁ fun j R₂ => j = .int (-1) ∧ Upd R₂ a (.list (vs ++ [v])) (.list vs) R' ∧ Ψ .next R')
    (hx : vs.length ≤ 100000) : Ex1 C A env (.Delete [.Subscript (.Name x xp) i p1] p2) R Ψ := fun z s H t => by
  refine wpAny_Delete (wpAny_deleteEach_cons ?_)
  rw [arm_delete_Subscript]
  refine wpAny_bind (h.then H t fun z₁ R₁ o u s₁ e₁ H₁ t₁ d₁ ⟨e, h₁⟩ => ?_)
  subst e; obtain rfl := d₁.refI
  refine wpAny_bind (wpAny_holding (Ev.then h₁ H₁ t₁ fun z₂ R₂ j u s₂ e₂ H₂ t₂ d₂ ⟨e, h2, h3⟩ => ?_))
  subst e; obtain ⟨_, rfl⟩ := d₂.intI
  refine wpAny_bind (wpAny_standAt (wpAny_bind (wpAny_holding ?_)))
  obtain ⟨⟨its, n, ho, dl⟩, hz⟩ := H₂.res _ h2.old
  have hsz : its.size = vs.length + 1 := by rw [← Array.length_toList, dl.length]; simp
  have hk : seqIndex? (-1) its.size = some vs.length := by
    unfold seqIndex?
    rw [hsz]
    simp
    lia
  refine wpAny_delItem_plain ⟨n, ho⟩ (by decide) hk (fun h' ⟨n', hg⟩ hs => ?_) (by rw [hsz, sizeLine_eq]; lia)
  refine wpAny_releaseD (wpAny_deleteEach_nil ?_)
  refine ⟨z₂, R', .next, e₁.trans e₂, H₂.upd (t := s₂.toks) h2 hs ⟨_, n', hg, ?_⟩, .next, h3⟩
  have : (its.eraseIdxIfInBounds vs.length).toList = its.toList.take vs.length := by
    rw [Array.eraseIdxIfInBounds, dif_pos (by lia), Array.toList_eraseIdx, List.eraseIdx_eq_take_drop_succ, List.drop_of_length_le (by rw [Array.length_toList]; lia), List.append_nil]
  rw [this]
  have := dl.take vs.length
  rwa [List.take_left] at this
theorem Ev.or2 {x y : Expr} (h : Ev C A env x R fun v R₁ => Tr C A v R₁ fun b R₂ => if b = true then Φ v R₂ else Ev C A env y R₂ Φ) : Ev C A env (.BoolOp .Or [x, y] pos) R Φ := fun z s H t =>
  wpAny_Or2 (h.then H t fun z₁ R₁ v u s₁ e₁ H₁ t₁ d₁ h₁ => wpNo t₁ (h₁ z₁ s₁ u H₁ t₁ d₁) fun b s₂ t₂ ⟨z₂, R₂, e₂, H₂, p⟩ => by
    cases b with
    | true => exact ⟨z₂, R₂, v, e₁.trans e₂, H₂, d₁.mono e₂, p⟩
    | false => exact wpNo t₂ (show wpAny _ _ (eval y env) _ _ _ from p z₂ s₂ H₂ t₂) fun _ _ _ q => q.ext (e₁.trans e₂))
theorem Ev.rev {value e : Expr} {p : Pos} (h : Ev C A env value R fun o R₁ => Ev C A env e R₁ fun i R₂ => i = .int (-1) ∧ ∃ vs, LstOf R₂ o vs ∧ vs.length ≤ 16777216 ∧ Φ (.lst vs.reverse) R₂) :
    Ev C A env (.Subscript value (.Slice Option.none Option.none (some e) p) pos) R Φ := fun z s H t =>
  Subscript_ (h.then H t fun z₁ R₁ a v s₁ e₁ H₁ t₁ d₁ h₁ => wpAny_Slice (evalPart_none_step (evalPart_none_step (evalPart_some_step (Ev.then h₁ H₁ t₁ fun z₂ R₂ i u s₂ e₂ H₂ t₂ d₂ ⟨hi, vs, l, hl, h₂⟩ => by
    subst hi; obtain ⟨tk, rfl⟩ := d₂.intI
    obtain ⟨a', items, rfl, h1, d1⟩ := l.is H₂ (d₁.mono e₂)
    have hsz : items.size = vs.length := by rw [← Array.length_toList]; exact d1.length
    have H' : Rel C z₂ R₂ { s₂ with heap := s₂.heap.push { cls := .type "slice", data := .fields #[.none, .none, .int (-1) tk] } } := H₂.grown (t := s₂.toks) H₂.fresh H₂.notIn fun b o _ e => Heap.get?_push_of_some _ e
    have hl' : ({ s₂ with heap := s₂.heap.push { cls := .type "slice", data := .fields #[.none, .none, .int (-1) tk] } } : Shared).heap.IsList a' items := by
      obtain ⟨o, ho, q⟩ := h1
      exact ⟨o, Heap.get?_push_of_some _ ho, q⟩
    refine tail_any hl'.typeIs slot_list_getitem.lookup ?_ (by with_unfolding_all rfl)
    refine wpAny_getItem_list_slice hl' (Heap.IsSliceOf.new _ _ _ _) .none .none (.int _ _) (by decide) ?_ (by rw [hsz, sizeLine_eq]; exact hl)
    rw [slicePick_rev]
    obtain ⟨z', e', H'', d''⟩ := H'.pushL d1.reverse
    exact ⟨z', R₂, _, (e₁.trans e₂).trans e', H'', d'', h₂⟩)))))
theorem Cl.tupL {v : V} {vs : List V} (l : LstOf R v vs) (hl : vs.length ≤ 16777216) (h : Φ (.tup vs) R) : Cl C A (.ty "tuple") [v] R Φ := fun z s f us H t d ds => by
  obtain rfl := d.tyI
  obtain ⟨_, _, rfl, d1, e0⟩ := ds.consI
  obtain rfl := e0.nilI
  obtain ⟨a, items, rfl, h1, d1⟩ := l.is H d1
  have hsz : items.size = vs.length := by rw [← Array.length_toList]; exact d1.length
  refine call_tuple_list h1 (fun h' hk => ?_) (by rw [hsz, sizeLine_eq]; exact hl)
  have H' := H.keep (t := s.toks) hk
  obtain ⟨z', e', H'', d''⟩ := H'.pushT d1
  exact ⟨z', R, _, e', H'', d'', h⟩
theorem As.tupleG {es : List Expr} {vs : List V} {k : Nat} {Φ : Led → Prop} (h : AsL C A env es vs R Φ) (hh : A.handled = none) (hn : (assignEach es env).map (·.2) = es.map (fun e => assign e env) := by rfl) (hf : (assignEach es env).findIdx? (·.1) = none := by rfl) (hlen : (assignEach es env).length = es.length := by rfl) (hl : es.length = vs.length := by rfl) : As C A env (.Tuple es k pos) (.tup vs) R Φ := fun z s u H t d => by
  obtain ⟨a, items, rfl, ht, ds⟩ := d.tupIs H
  refine wpAny_assign_Tuple hh ht (by rw [hlen, hl, ← ds.length, Array.length_toList]) hf fun h' he => ?_
  rw [hn]
  exact AsL.sound h (H.grown (t := s.toks) H.fresh H.notIn he) t ds
theorem Cmp.isNone {b : Bool} {v : V} {Φ : Bool → Led → Prop} (hv : (v = .none ∧ b = true) ∨ ((∃ i, v = .int i) ∧ b = false)) (h : Φ b R) : Cmp C A .Is v .none R Φ := fun z s u w H t d e => by
  obtain rfl := e.noneI
  rcases hv with ⟨rfl, rfl⟩ | ⟨⟨i, rfl⟩, rfl⟩
  · obtain rfl := d.noneI
    exact wpAny_is_self rfl (bp H h)
  · obtain ⟨_, rfl⟩ := d.intI
    exact is_none_ne (fun e => nomatch e) (bp H h)
end
set_option maxHeartbeats 1000000
section
variable {C : Cx} {A : Around} {env : Env} {R : Led} {mg mb : Str → Option Value} {Φ : V → Led → Prop} {Ψ : Fl → Led → Prop} {pos : Pos} {L a : Addr} {m : List (Str × V)} {l : List Nat} {x y : Str} {k c : Nat} {p1 p2 p3 : Pos}
theorem lt_of {l : List Nat} {k c : Nat} (hc : l[k]? = some c) : k < l.length := (List.getElem?_eq_some_iff.mp hc).1
theorem Itm.chr (hl : l.length ≤ 190) (hc : l[k]? = some c) (h : Φ (.str (S [c])) R) : Itm C A (.str (S l)) (.int (k : Nat)) R Φ := by
  have hk := lt_of hc
  refine Itm.str (by rw [S_len]; lia) (by rw [S_len]; lia) (by rw [S_len]; lia) ?_
  rw [item_S (c := c) (by lia) hc]; exact h
theorem Ev.chrN (hl : l.length ≤ 190) (hc : l[k]? = some c) (hL : (L, .ns m) ∈ R) (hx : (x, .str (S l)) ∈ m) (hy : (y, .int (k : Nat)) ∈ m) (h : Φ (.str (S [c])) R) (hk : env.scope.kind = .function := by rfl)
    (hl1 : env.kindOf x = some .local := by rfl) (hl2 : env.kindOf y = some .local := by rfl) (he : env.locals = L := by rfl) (hd1 : (x == ("__debug__" : Str)) = false := by decide) (hd2 : (y == ("__debug__" : Str)) = false := by decide) : Ev C A env (.Subscript (.Name x p1) (.Name y p2) pos) R Φ :=
  Ev.item (Ev.loc hL hx (Ev.loc hL hy (Itm.chr hl hc h) rfl hk hl2 he hd2) rfl hk hl1 he hd1)
theorem Cmp.inB {d : Nat} {b : Bool} {Φ : Bool → Led → Prop} (e : decide (d ∈ l) = b) (h : Φ b R) : Cmp C A .In (.str (S [d])) (.str (S l)) R Φ := Cmp.inC (by rw [e]; exact h)
theorem Cmp.eqCh {a b : Nat} {Φ : Bool → Led → Prop} (h : Φ (a == b) R) : Cmp C A .Eq (.str (S [a])) (.str (S [b])) R Φ := Cmp.eqS (by rw [one_eq]; exact h)
theorem Cmp.eqTx {a b : List Nat} {Φ : Bool → Led → Prop} (h : Φ (decide (a = b)) R) : Cmp C A .Eq (.str (S a)) (.str (S b)) R Φ := Cmp.eqS (by rw [S_inj]; exact h)
theorem Cmp.neTx {a b : List Nat} {Φ : Bool → Led → Prop} (h : Φ (!decide (a = b)) R) : Cmp C A .NotEq (.str (S a)) (.str (S b)) R Φ := Cmp.neS (by unfold bne; rw [S_inj]; exact h)
theorem Cmp.neCh {a b : Nat} {Φ : Bool → Led → Prop} (h : Φ (!(a == b)) R) : Cmp C A .NotEq (.str (S [a])) (.str (S [b])) R Φ := Cmp.neS (by unfold bne; rw [one_eq]; exact h)
theorem Ev.lenT (G : GX C mg mb) (hlen : mg "len" = Option.none) (hl : l.length ≤ 190) (hL : (L, .ns m) ∈ R) (hx : (x, .str (S l)) ∈ m) (h : Φ (.int l.length) R) (hk : env.scope.kind = .function := by rfl)
    (hl1 : env.kindOf x = some .local := by rfl) (hl2 : env.kindOf "len" = some .globalImplicit := by rfl) (he : env.locals = L := by rfl) (hg : env.globals = mainGlobals := by rfl) (hb : env.builtins = builtinsNs := by rfl) (hd1 : (x == ("__debug__" : Str)) = false := by decide)
    (hp : plainArgs [Expr.Name x p2] = true := by rfl) : Ev C A env (.Call (.Name "len" p1) [.Name x p2] [] pos) R Φ :=
  Ev.callN (Ev.blt G hlen boot_len (fun _ => .bi _) (EvL.cons (Ev.loc hL hx (EvL.nil ⟨Kpr.bi, Cl.lenS (by rw [S_len]; lia) (by rw [S_len]; exact h)⟩) rfl hk hl1 he hd1)) (by decide) hk hl2 hg hb) hp
theorem Ev.lenM {vs : List V} {n : Nat} (G : GX C mg mb) (hlen : mg "len" = Option.none) (hL : (L, .ns m) ∈ R) (hx : (x, .ref a) ∈ m) (ha : (a, .list vs) ∈ R) (hn : vs.length = n) (hl : n ≤ 100000) (h : Φ (.int n) R) (hk : env.scope.kind = .function := by rfl)
    (hl1 : env.kindOf x = some .local := by rfl) (hl2 : env.kindOf "len" = some .globalImplicit := by rfl) (he : env.locals = L := by rfl) (hg : env.globals = mainGlobals := by rfl) (hb : env.builtins = builtinsNs := by rfl) (hd1 : (x == ("__debug__" : Str)) = false := by decide)
    (hp : plainArgs [Expr.Name x p2] = true := by rfl) : Ev C A env (.Call (.Name "len" p1) [.Name x p2] [] pos) R Φ :=
  Ev.callN (Ev.blt G hlen boot_len (fun _ => .bi _) (EvL.cons (Ev.loc hL hx (EvL.nil ⟨Kpr.bi, Cl.lenL (LstOf.at ha) (by lia) (by rw [hn]; exact h)⟩) rfl hk hl1 he hd1)) (by decide) hk hl2 hg hb) hp
theorem Ex1.appPair {vs : List V} {e1 e2 : Expr} {tk : Nat} {tp : Pos} (hL : (L, .ns m) ∈ R) (hx : (x, .ref a) ∈ m) (ha : (a, .list vs) ∈ R)
    (h : Ev C A env e1 R fun u R₁ => Ev C A env e2 R₁ fun v R₂ => ∃ ws R', Upd R₂ a (.list ws) (.list (ws ++ [.tup [u, v]])) R' ∧ ws.length ≤ 16777215 ∧ Ψ .next R') (hk : env.scope.kind = .function := by rfl)
    (hl1 : env.kindOf x = some .local := by rfl) (he : env.locals = L := by rfl) (hd1 : (x == ("__debug__" : Str)) = false := by decide) (hi : interactive env = false := by rfl) (hs : swapsWith (.Call (.Attribute (.Name x p1) "append" p2) [.Tuple [e1, e2] tk tp] [] p3) Option.none pos.line env = pure false := by rfl)
    (hbase : attributeBase (.Name x p1) "append" env (eval (.Name x p1) env) = eval (.Name x p1) env := by rfl) (hp : plainArgs [Expr.Tuple [e1, e2] tk tp] = true := by rfl)
    (hfew : ((backTo p3 (starEach [Expr.Tuple [e1, e2] tk tp] env)).all (fun x => !x.1) && (backToKw p3 (keywordEach [] env)).all (fun x => x.1.isSome) && decide ([Expr.Tuple [e1, e2] tk tp].length + ([] : List Keyword).length + (if ([] : List Keyword).isEmpty then 0 else 1) < 30)) = true := by rfl)
    (hline : (p2.endLine == p3.line) = true := by rfl) (he1 : starEach [e1, e2] env = (false, eval e1 env) :: starEach [e2] env := by rfl) (he2 : starEach [e2] env = (false, eval e2 env) :: starEach [] env := by rfl) : Ex1 C A env (.Expr (.Call (.Attribute (.Name x p1) "append" p2) [.Tuple [e1, e2] tk tp] [] p3) pos) R Ψ :=
  Ex1.expr (Ev.meth (T := "list") ⟨PySem.F.plainAttrs_list, PySem.F.slot_list_append, PySem.F.type_list_append⟩
    (Ev.loc hL hx ⟨TyIs.listM ha, EvL.cons (Ev.tuple (EvL.cons (h.mono fun u R₁ h₁ => EvL.cons (h₁.mono fun v R₂ ⟨ws, R', h2, h3, h4⟩ => EvL.nil (EvL.nil (Cl.append h2 (by lia) ⟨rfl, h4⟩))) he2) he1) (by show 2 ≤ 1000; decide)) rfl⟩ rfl hk hl1 he hd1) hbase hp hfew hline) hi hs
end
section
variable {C : Cx} {A : Around} {env : Env} {R : Led} {Φ : V → Led → Prop} {Ψ : Fl → Led → Prop} {pos : Pos}
theorem Ex1.forW {x : Str} {p : Pos} {iter : Expr} {body orelse : List Stmt} (I : List V → Led → Prop)
    (h : Ev C A env iter R fun v R₁ => ∃ vs R₂, Itb C A v vs R₁ ∧ Wk R₁ R₂ ∧ I vs R₂)
    (turn : ∀ it o v rest R, I (v :: rest) R → As C A env (.Name x p) v ((it, .obj o) :: R) fun R₁ => Ex C A env body R₁ (Turn (fun R₂ => ∃ R₃, Wk R₂ ((it, .obj o) :: R₃) ∧ I rest R₃) fun f R₂ => ∃ R₃, Wk R₂ R₃ ∧ Ψ f R₃))
    (fin : ∀ R, I [] R → Ex C A env orelse R Ψ)
    (hs : ∀ x, foldedSetIterable iter env x = pure x := by intro _; rfl) : Ex1 C A env (.For (.Name x p) iter body orelse pos) R Ψ := fun z s H t => by
  refine wpAny_For (h.then H t fun z₁ R₁ v u s₁ e₁ H₁ t₁ d₁ h₁ => ?_) hs
  obtain ⟨vs, R₂, hit, hwk, hI⟩ := h₁
  refine hit H₁ d₁ fun o₀ St hfr W hst => ?_
  have Hp : Rel C z₁ ((s₁.heap.objs.size, .obj o₀) :: R₂) { s₁ with heap := s₁.heap.push o₀ } := (H₁.wk hwk).pushR (r := .obj _) (Heap.get?_push_size _ hfr)
  generalize hs2 : ({ s₁ with heap := s₁.heap.push o₀ } : Shared) = s₂ at Hp ⊢
  have t₂ : 0 < s₂.toks := by rw [← hs2]; exact t₁
  generalize s₁.heap.objs.size = it at Hp W ⊢
  refine codeAny_forLoop_any (fun m s' => ∃ z' R' i o, m = vs.length - i ∧ i ≤ vs.length ∧ Ext z₁ z' ∧ 0 < s'.toks ∧ Rel C z' ((it, .obj o) :: R') s' ∧ St i o ∧ I (vs.drop i) R') ?_ vs.length ⟨z₁, R₂, 0, o₀, rfl, Nat.zero_le _, Ext.refl _, t₂, Hp, hst, by simpa using hI⟩
  rintro m s' ⟨z', R', i, o, hm, hi, e', t', H', st, hI'⟩
  by_cases hlt : i < vs.length
  · refine W.item (i := i) (v := vs[i]) e' H' (.head _) st (by simp [hlt]) t' fun h₂ tk xv o₂ htk hs₂ ho₂ st₂ dx => ?_
    have H₂ : Rel C z' ((it, .obj o₂) :: R') { s' with heap := h₂, toks := tk } := H'.upd (t := tk) .here hs₂ ho₂
    have hdr : vs.drop i = vs[i] :: vs.drop (i + 1) := List.drop_eq_getElem_cons hlt
    rw [hdr] at hI'
    have T := turn it o₂ vs[i] (vs.drop (i + 1)) R' hI'
    have main : wpAny C.M A (PySem.assign (.Name x p) env xv) (fun _ s₂ => wpAny C.M A (execs body env) (fun f s₃ => match f with
        | .next | .cont => ∃ m', m' < m ∧ (∃ z' R' i o, m' = vs.length - i ∧ i ≤ vs.length ∧ Ext z₁ z' ∧ 0 < s₃.toks ∧ Rel C z' ((it, .obj o) :: R') s₃ ∧ St i o ∧ I (vs.drop i) R')
        | .brk => FPost C z Ψ .next s₃
        | .ret v => FPost C z Ψ (.ret v) s₃) NoE s₂) NoE { s' with heap := h₂, toks := tk } := by
      refine T.then H₂ htk dx fun z₃ R₃ s₃ e₃ H₃ t₃ h₃ => h₃.then H₃ t₃ fun z₄ R₄ g f s₄ e₄ H₄ t₄ d₄ h₄ => ?_
      have eall : Ext z₁ z₄ := (e'.trans e₃).trans e₄
      cases d₄ with
      | next => obtain ⟨R₅, wk, hI₅⟩ := h₄; exact ⟨vs.length - (i + 1), by lia, z₄, R₅, i + 1, o₂, rfl, hlt, eall, t₄, H₄.wk wk, st₂, hI₅⟩
      | cont => obtain ⟨R₅, wk, hI₅⟩ := h₄; exact ⟨vs.length - (i + 1), by lia, z₄, R₅, i + 1, o₂, rfl, hlt, eall, t₄, H₄.wk wk, st₂, hI₅⟩
      | brk => obtain ⟨R₅, wk, p⟩ := h₄; exact ⟨z₄, R₅, _, e₁.trans eall, H₄.wk wk, .next, p⟩
      | ret d => obtain ⟨R₅, wk, p⟩ := h₄; exact ⟨z₄, R₅, _, e₁.trans eall, H₄.wk wk, .ret d, p⟩
    dsimp only
    exact letGo_name (wpAny_mono main (fun _ s₂ q => wpAny_mono q (fun f s₃ r => r) fun _ _ x => x.elim) fun _ _ x => x.elim)
  · obtain rfl : i = vs.length := by lia
    refine W.done e' H' (.head _) st fun h₂ he₂ => ?_
    have hne : it ∉ R'.map (·.1) := (List.nodup_cons.mp H'.nodup).1
    have hz0 : z' it = none := (H'.res _ (.head _)).2
    have H₂ : Rel C z' R' { s' with heap := h₂ } := (H'.tail).grown (t := s'.toks) hz0 hne he₂
    have hnil : vs.drop vs.length = [] := by simp
    rw [hnil] at hI'
    exact wpNo (s := { s' with heap := h₂ }) t' (fin R' hI' z' _ H₂ t') fun f s₃ _ p => p.ext (e₁.trans e')
end
end Mine
end
section
set_option linter.unusedVariables false
set_option Elab.async false
namespace Mine
noncomputable def nlc (l : List Nat) (p : Nat) : Nat := (l.take p).count 10
section
variable {l : List Nat} {q f v : Nat} {g : List Nat}
theorem drop_at {x c : Nat} (h : l[x]? = some c) : l.drop x = c :: l.drop (x + 1) := by
  obtain ⟨hx, rfl⟩ := List.getElem?_eq_some_iff.mp h
  exact List.drop_eq_getElem_cons hx
theorem nlc_succ {x c : Nat} (h : l[x]? = some c) : nlc l (x + 1) = nlc l x + if c = 10 then 1 else 0 := by
  unfold nlc
  rw [List.take_add_one, h]
  simp only [Option.toList_some, List.count_append, List.count_singleton]
  by_cases hc : c = 10 <;> simp [hc]
theorem nlc_other {x c : Nat} (h : l[x]? = some c) (hc : c ≠ 10) : nlc l (x + 1) = nlc l x := by rw [nlc_succ h, if_neg hc, Nat.add_zero]
theorem nlc_nl {x : Nat} (h : l[x]? = some 10) : nlc l (x + 1) = nlc l x + 1 := by rw [nlc_succ h, if_pos rfl]
theorem nlc_mono {a b : Nat} (h : a ≤ b) : nlc l a ≤ nlc l b := by
  unfold nlc
  exact List.Sublist.count_le (a := 10) (List.take_sublist_take_left h)
theorem nlc_zero : nlc l 0 = 0 := rfl
theorem tr_q {q c : Nat} (hq : q = 34 ∨ q = 39) : tr c = q ↔ c = q := by
  unfold tr
  rcases hq with rfl | rfl <;> (repeat' split) <;> lia
theorem tr_10 {c : Nat} : tr c = 10 ↔ c = 10 := by unfold tr; (repeat' split) <;> lia
theorem tr_92 {c : Nat} : tr c = 92 ↔ c = 92 := by unfold tr; (repeat' split) <;> lia
theorem tr_35 {c : Nat} : tr c = 35 ↔ c = 35 := by unfold tr; (repeat' split) <;> lia
theorem hit_take {x c : Nat} (hq : q = 34 ∨ q = 39) (h : l[x]? = some c) : (tr c :: (l.drop (x + 1)).map tr).take 3 = [q, q, q] ↔ Hit3 l q x := by
  unfold Hit3
  constructor
  · intro e
    rw [List.take_succ_cons] at e
    obtain ⟨e1, e2⟩ := List.cons.inj e
    have hc := (tr_q hq).mp e1
    subst hc
    have g1 := congrArg (·[0]?) e2
    have g2 := congrArg (·[1]?) e2
    simp only [List.getElem?_take, List.getElem?_map, List.getElem?_drop] at g1 g2
    simp at g1 g2
    obtain ⟨a, ha, ha'⟩ := g1
    obtain ⟨b, hb, hb'⟩ := g2
    exact ⟨h, ha.trans (congrArg some ((tr_q hq).mp ha')), hb.trans (congrArg some ((tr_q hq).mp hb'))⟩
  · rintro ⟨h0, h1, h2⟩
    rw [h] at h0
    cases h0
    rw [drop_at h1, drop_at (x := x + 1 + 1) h2]
    have : tr q = q := (tr_q hq).mpr rfl
    simp [this]
theorem scan3_run (hq : q = 34 ∨ q = 39) {x e : Nat} (h : Scan3 l q x e) : run (.str q 2 f) ((l.drop x).map tr) ⟨v, nlc l x, g⟩ = run (.str q 2 f) ((l.drop e).map tr) ⟨v, nlc l e, g⟩ := by
  have q92 : q ≠ 92 := by lia
  have q10 : q ≠ 10 := by lia
  have q120 : q ≠ 120 := by lia
  induction h with
  | stop => rfl
  | hit _ => rfl
  | @bs x e h1 h2 h3 ih =>
    obtain ⟨c, hc⟩ : ∃ c, l[x + 1]? = some c := ⟨_, List.getElem?_eq_getElem (by lia)⟩
    rw [drop_at h1, drop_at hc, List.map_cons, List.map_cons, run_cons, run_cons]
    have t92 : tr 92 = 92 := tr_92.mpr rfl
    have s1 : step (.str q 2 f) (tr 92) (tr c :: (l.drop (x + 1 + 1)).map tr) ⟨v, nlc l x, g⟩ = (.sbs q 2 f, ⟨v, nlc l x, g⟩) := by
      rw [t92]
      simp only [step]
      rw [if_neg (by decide), if_neg (by rw [List.take_succ_cons]; intro e; exact q92 (List.cons.inj e).1.symm), if_neg (by decide), if_pos trivial]
    rw [s1]
    simp only [step]
    rw [← ih, nlc_succ (x := x + 1) hc, nlc_other h1 (by decide)]
    by_cases h10 : c = 10
    · rw [if_pos (tr_10.mpr h10), if_pos h10]; rfl
    · rw [if_neg (fun e => h10 (tr_10.mp e)), if_neg h10]; rfl
  | @one x e c h1 h2 h3 h4 ih =>
    rw [← ih, drop_at h1, List.map_cons, run_cons]
    have key : step (.str q 2 f) (tr c) ((l.drop (x + 1)).map tr) ⟨v, nlc l x, g⟩ = (.str q 2 f, ⟨v, nlc l (x + 1), g⟩) := by
      simp only [step]
      by_cases h120 : tr c = 120
      · rw [if_pos h120, nlc_other h1 (fun e => by subst e; revert h120; decide)]
      rw [if_neg h120, if_neg (show ¬ (List.take (2 + 1) (tr c :: (l.drop (x + 1)).map tr) = List.replicate (2 + 1) q) from fun e => h3 ((hit_take hq h1).mp e))]
      by_cases h10 : c = 10
      · rw [if_pos (tr_10.mpr h10), if_neg (by decide), nlc_succ h1, if_pos h10]; rfl
      · rw [if_neg (fun e => h10 (tr_10.mp e)), if_neg (fun e => h2 (tr_92.mp e)), nlc_other h1 h10]
    rw [key]
theorem scan1_run (hq : q = 34 ∨ q = 39) {x e : Nat} (h : Scan1 l q x e) : run (.str q 0 f) ((l.drop x).map tr) ⟨v, nlc l x, g⟩ = run (.str q 0 f) ((l.drop e).map tr) ⟨v, nlc l e, g⟩ := by
  have q92 : q ≠ 92 := by lia
  have q10 : q ≠ 10 := by lia
  have q120 : q ≠ 120 := by lia
  induction h with
  | stop => rfl
  | hit _ => rfl
  | nl _ => rfl
  | @bs x e h1 h2 h3 ih =>
    obtain ⟨c, hc⟩ : ∃ c, l[x + 1]? = some c := ⟨_, List.getElem?_eq_getElem (by lia)⟩
    rw [drop_at h1, drop_at hc, List.map_cons, List.map_cons, run_cons, run_cons]
    have t92 : tr 92 = 92 := tr_92.mpr rfl
    have s1 : step (.str q 0 f) (tr 92) (tr c :: (l.drop (x + 1 + 1)).map tr) ⟨v, nlc l x, g⟩ = (.sbs q 0 f, ⟨v, nlc l x, g⟩) := by
      rw [t92]
      simp only [step]
      rw [if_neg (by decide), if_neg (by rw [List.take_succ_cons]; intro e; exact q92 (List.cons.inj e).1.symm), if_neg (by decide), if_pos trivial]
    rw [s1]
    simp only [step]
    rw [← ih, nlc_succ (x := x + 1) hc, nlc_other h1 (by decide)]
    by_cases h10 : c = 10
    · rw [if_pos (tr_10.mpr h10), if_pos h10]; rfl
    · rw [if_neg (fun e => h10 (tr_10.mp e)), if_neg h10]; rfl
  | @one x e c h1 h2 h3 h4 h5 ih =>
    rw [← ih, drop_at h1, List.map_cons, run_cons]
    have key : step (.str q 0 f) (tr c) ((l.drop (x + 1)).map tr) ⟨v, nlc l x, g⟩ = (.str q 0 f, ⟨v, nlc l (x + 1), g⟩) := by
      simp only [step]
      rw [nlc_other h1 h4]
      by_cases h120 : tr c = 120
      · rw [if_pos h120]
      rw [if_neg h120, if_neg (by rw [List.take_succ_cons]; intro e; exact h3 ((tr_q hq).mp (List.cons.inj e).1)), if_neg (fun e => h4 (tr_10.mp e)), if_neg (fun e => h2 (tr_92.mp e))]
    rw [key]
noncomputable def Ready (l : List Nat) (e : Nat) (m : Mode) : Prop := (∃ j, m = .code j) ∨ (∃ q f, m = .str q 0 f ∧ (q = 34 ∨ q = 39) ∧ l[e]? = some 10) ∨ e = l.length
noncomputable def isOp (c : Nat) : Bool := c == 40 || c == 91 || c == 123
noncomputable def isCl (c : Nat) : Bool := c == 41 || c == 93 || c == 125
noncomputable def isEnd (c : Nat) : Bool := c == 10 || c == 35
noncomputable def lvlM (c v : Nat) : Nat := if isOp c then v + 1 else if isCl c then v - 1 else v
noncomputable def goodM (c v lno : Nat) (g : List Nat) : List Nat := if isEnd c ∧ v = 0 then g ++ [lno] else g
theorem code_step {c : Nat} {j : Bool} {t : List Nat} {s : St} : step (.code j) c t s = if c = 120 then (.code false, s) else if c = 10 then (.code false, s.nl) else if c = 40 then (.code false, s.up) else if c = 41 then (.code false, s.down) else if c = 34 ∨ c = 39 then (if t.take 2 = [c, c] then (.opn 2 c s.lno, s) else (.str c 0 s.lno, s)) else if c = 35 then (.com, s) else (.bs, s) := rfl
theorem mk_read {k e c : Nat} {m : Mode} (hm : Mk l k e) (hc : l[k]? = some c) (hr : Ready l k m) :
    ∃ m', Ready l e m' ∧ run m ((l.drop k).map tr) ⟨v, nlc l k, g⟩ = run m' ((l.drop e).map tr) ⟨lvlM c v, nlc l e, goodM c v (nlc l e) g⟩ := by
  have hk := some_lt hc
  /- behind a string's end there stands a line's end alone -/
  by_cases h10 : c = 10
  · subst h10
    have he : e = k + 1 := by
      cases hm with
      | one _ _ _ _ _ => rfl
      | com h _ _ _ => rw [hc] at h; cases h
      | bs h _ => rw [hc] at h; cases h
      | s3h hq hh _ _ => have hh := hh.1; rw [hc] at hh; rcases hq with rfl | rfl <;> cases hh
      | s3e hq hh _ => have hh := hh.1; rw [hc] at hh; rcases hq with rfl | rfl <;> cases hh
      | s1h hq hh _ _ _ => rw [hc] at hh; rcases hq with rfl | rfl <;> cases hh
      | s1e hq hh _ _ _ => rw [hc] at hh; rcases hq with rfl | rfl <;> cases hh
    subst he
    refine ⟨.code false, .inl ⟨_, rfl⟩, ?_⟩
    rw [drop_at hc, List.map_cons, run_cons, nlc_nl hc, show tr 10 = 10 from tr_10.mpr rfl]
    have key : step m 10 ((l.drop (k + 1)).map tr) ⟨v, nlc l k, g⟩ = (.code false, St.nl ⟨v, nlc l k, g⟩) := by
      rcases hr with ⟨j, rfl⟩ | ⟨q, f, rfl, hq, _⟩ | h
      · rfl
      · simp only [step]
        rw [if_neg (by decide), if_neg (by rw [List.take_succ_cons]; intro e; have := (List.cons.inj e).1; lia), if_pos trivial, if_pos trivial]
      · lia
    rw [key]
    unfold St.nl lvlM goodM isOp isCl isEnd
    by_cases hv : v = 0 <;> simp [hv]
  obtain ⟨j, rfl⟩ : ∃ j, m = .code j := by
    rcases hr with h | ⟨q, f, _, _, h⟩ | h
    · exact h
    · rw [hc] at h; exact absurd (Option.some.inj h) h10
    · lia
  have hgood : c ≠ 35 → goodM c v (nlc l e) g = g := fun h35 => by unfold goodM isEnd; rw [if_neg (by simp [h10, h35])]
  rw [drop_at hc, List.map_cons, run_cons, code_step]
  have str_lvl : c = 34 ∨ c = 39 → lvlM c v = v := fun h => by unfold lvlM isOp isCl; rcases h with rfl | rfl <;> rfl
  cases hm with
  | one h h35 h92 h34 h39 =>
    rw [hc] at h; cases h
    rw [hgood h35, nlc_other hc h10]
    refine ⟨.code false, .inl ⟨_, rfl⟩, ?_⟩
    have hl : lvlM c v = if tr c = 40 then v + 1 else if tr c = 41 then v - 1 else v := by
      unfold lvlM isOp isCl tr
      by_cases a : c = 40 ∨ c = 91 ∨ c = 123
      · rw [if_pos (by simpa [or_assoc] using a), if_pos a, if_pos rfl]
      rw [if_neg (by simpa [or_assoc] using a), if_neg a]
      by_cases b : c = 41 ∨ c = 93 ∨ c = 125
      · rw [if_pos (by simpa [or_assoc] using b), if_pos b, if_neg (by decide), if_pos rfl]
      rw [if_neg (by simpa [or_assoc] using b), if_neg b]
      by_cases d : c = 34 ∨ c = 39 ∨ c = 92 ∨ c = 10 ∨ c = 35
      · lia
      rw [if_neg d, if_neg (by decide), if_neg (by decide)]
    rw [hl]
    have h1 : tr c ≠ 10 := fun e => h10 (tr_10.mp e)
    have h2 : ¬ (tr c = 34 ∨ tr c = 39) := fun e => by
      rcases e with e | e
      · exact h34 ((tr_q (.inl rfl)).mp e)
      · exact h39 ((tr_q (.inr rfl)).mp e)
    have h3 : tr c ≠ 35 := fun e => h35 (tr_35.mp e)
    have h4 : tr c ≠ 92 := fun e => h92 (tr_92.mp e)
    by_cases h120 : tr c = 120
    · rw [if_pos h120, if_neg (by lia), if_neg (by lia)]
    rw [if_neg h120, if_neg h1]
    by_cases h40 : tr c = 40
    · rw [if_pos h40, if_pos h40]; rfl
    rw [if_neg h40, if_neg h40]
    by_cases h41 : tr c = 41
    · rw [if_pos h41, if_pos h41]; rfl
    exact absurd ((tr_alpha c).rest h120 h1 h40 h41 (fun e => h2 (.inl e)) (fun e => h2 (.inr e)) h3) h4
  | @com m h hlt hm hno =>
    rw [hc] at h; cases h
    refine ⟨.code false, .inl ⟨_, rfl⟩, ?_⟩
    rw [show tr 35 = 35 from rfl, if_neg (by decide), if_neg (by decide), if_neg (by decide), if_neg (by decide), if_neg (by decide), if_pos rfl]
    have hmid : l.drop (k + 1) = (l.drop (k + 1)).take (m - (k + 1)) ++ l.drop m := by
      conv => lhs; rw [← List.take_append_drop (m - (k + 1)) (l.drop (k + 1))]
      rw [List.drop_drop, show k + 1 + (m - (k + 1)) = m by lia]
    have hcnt : nlc l m = nlc l k := by
      have : ∀ n, k + 1 + n ≤ m → nlc l (k + 1 + n) = nlc l (k + 1) := fun n => by
        induction n with
        | zero => exact fun _ => rfl
        | succ n ih =>
          intro hn
          obtain ⟨d, hd⟩ : ∃ d, l[k + 1 + n]? = some d := ⟨_, List.getElem?_eq_getElem (by have := some_lt hm; lia)⟩
          rw [← ih (by lia), show k + 1 + (n + 1) = k + 1 + n + 1 by lia, nlc_other hd fun e => hno (k + 1 + n) (by lia) (by lia) (by rw [hd, e])]
      rw [← nlc_other hc (by decide), ← this (m - (k + 1)) (by lia), show k + 1 + (m - (k + 1)) = m by lia]
    rw [hmid, List.map_append, com_skip, drop_at hm, List.map_cons, run_cons, show tr 10 = 10 from tr_10.mpr rfl, nlc_nl hm, hcnt]
    · simp only [step]
      rw [if_pos trivial]
      unfold St.nl lvlM goodM isOp isCl isEnd
      by_cases hv : v = 0 <;> simp [hv]
    · intro d hd e
      obtain ⟨d', hd', rfl⟩ := List.mem_map.mp hd
      rw [tr_10] at e; subst e
      obtain ⟨i, hi⟩ := List.mem_iff_getElem?.mp hd'
      have hi' : i < m - (k + 1) := by
        rcases Nat.lt_or_ge i (m - (k + 1)) with q | q
        · exact q
        · rw [List.getElem?_eq_none (by rw [List.length_take]; lia)] at hi; cases hi
      rw [List.getElem?_take_of_lt hi', List.getElem?_drop] at hi
      exact hno (k + 1 + i) (by lia) (by lia) hi
  | bs h hle =>
    rw [hc] at h; cases h
    obtain ⟨d, hd⟩ : ∃ d, l[k + 1]? = some d := ⟨_, List.getElem?_eq_getElem (by lia)⟩
    rw [hgood (by decide), nlc_succ (x := k + 1) hd, nlc_other hc (by decide)]
    rw [show tr 92 = 92 from rfl, if_neg (by decide), if_neg (by decide), if_neg (by decide), if_neg (by decide), if_neg (by decide), if_neg (by decide), drop_at hd, List.map_cons, run_cons]
    simp only [step]
    have hl : lvlM 92 v = v := rfl
    rw [hl]
    by_cases h10 : d = 10
    · rw [if_pos (tr_10.mpr h10), if_pos h10]
      exact ⟨.code true, .inl ⟨_, rfl⟩, rfl⟩
    · rw [if_neg (fun e => h10 (tr_10.mp e)), if_neg h10]
      exact ⟨.code false, .inl ⟨_, rfl⟩, rfl⟩
  | @s3h q x hq hh hs hx =>
    have hcq : c = q := by have := hh.1; rw [hc] at this; exact Option.some.inj this
    subst hcq
    have ht : tr c = c := (tr_q hq).mpr rfl
    rw [hgood (by lia), str_lvl hq]
    rw [ht, if_neg (by lia), if_neg (by lia), if_neg (by lia), if_neg (by lia), if_pos hq, drop_at hh.2.1, drop_at (x := k + 1 + 1) hh.2.2, List.map_cons, List.map_cons, ht, if_pos (show List.take 2 (c :: c :: (l.drop (k + 1 + 1 + 1)).map tr) = [c, c] from rfl)]
    refine ⟨.code false, .inl ⟨_, rfl⟩, ?_⟩
    dsimp only
    rw [opn_skip]
    have e1 : nlc l k = nlc l (k + 1 + 1 + 1) := by
      rw [nlc_other (x := k + 1 + 1) hh.2.2 h10, nlc_other hh.2.1 h10, nlc_other hc h10]
    have e2 : nlc l (x + 3) = nlc l x := by
      show nlc l (x + 1 + 1 + 1) = _
      rw [nlc_other (x := x + 1 + 1) hx.2.2 h10, nlc_other hx.2.1 h10, nlc_other hx.1 h10]
    rw [e2]
    conv => lhs; rw [e1]
    rw [scan3_run hq hs, drop_at hx.1, drop_at hx.2.1, drop_at (x := x + 1 + 1) hx.2.2, List.map_cons, List.map_cons, List.map_cons, ht, run_cons]
    simp only [step]
    rw [if_neg (by lia), if_pos (by simp), if_neg (by decide), cls_skip]
  | @s3e q hq hh hs =>
    have hcq : c = q := by have := hh.1; rw [hc] at this; exact Option.some.inj this
    subst hcq
    have ht : tr c = c := (tr_q hq).mpr rfl
    rw [hgood (by lia), str_lvl hq]
    rw [ht, if_neg (by lia), if_neg (by lia), if_neg (by lia), if_neg (by lia), if_pos hq, drop_at hh.2.1, drop_at (x := k + 1 + 1) hh.2.2, List.map_cons, List.map_cons, ht, if_pos (show List.take 2 (c :: c :: (l.drop (k + 1 + 1 + 1)).map tr) = [c, c] from rfl)]
    refine ⟨.str c 2 (nlc l k), .inr (.inr rfl), ?_⟩
    dsimp only
    rw [opn_skip]
    have e1 : nlc l (k + 1 + 1 + 1) = nlc l k := by
      rw [nlc_other (x := k + 1 + 1) hh.2.2 h10, nlc_other hh.2.1 h10, nlc_other hc h10]
    have := scan3_run (f := nlc l k) (v := v) (g := g) hq hs
    rw [show k + 3 = k + 1 + 1 + 1 from rfl, e1] at this
    exact this
  | @s1h q x hq hh hn hs hx =>
    have hcq : c = q := by rw [hc] at hh; exact Option.some.inj hh
    subst hcq
    have ht : tr c = c := (tr_q hq).mpr rfl
    rw [hgood (by lia), str_lvl hq]
    have hnt : ¬ ((l.drop (k + 1)).map tr).take 2 = [c, c] := fun e => hn ((hit_take hq hc).mp (by rw [List.take_succ_cons, e, ht]))
    rw [ht, if_neg (by lia), if_neg (by lia), if_neg (by lia), if_neg (by lia), if_pos hq, if_neg hnt]
    refine ⟨.code false, .inl ⟨_, rfl⟩, ?_⟩
    dsimp only
    have := scan1_run (f := nlc l k) (v := v) (g := g) hq hs
    rw [nlc_other hc h10] at this
    rw [this, drop_at hx, List.map_cons, ht, run_cons, nlc_other hx h10]
    simp only [step]
    rw [if_neg (by lia), if_pos (by simp), if_pos trivial]
  | @s1e q x hq hh hn hs hx =>
    have hcq : c = q := by rw [hc] at hh; exact Option.some.inj hh
    subst hcq
    have ht : tr c = c := (tr_q hq).mpr rfl
    rw [hgood (by lia), str_lvl hq]
    have hnt : ¬ ((l.drop (k + 1)).map tr).take 2 = [c, c] := fun e => hn ((hit_take hq hc).mp (by rw [List.take_succ_cons, e, ht]))
    rw [ht, if_neg (by lia), if_neg (by lia), if_neg (by lia), if_neg (by lia), if_pos hq, if_neg hnt]
    have := scan1_run (f := nlc l k) (v := v) (g := g) hq hs
    rw [nlc_other hc h10] at this
    refine ⟨.str c 0 (nlc l k), ?_, this⟩
    rcases hx with rfl | hx
    · exact .inr (.inr rfl)
    · exact .inr (.inl ⟨_, _, rfl, hq, hx⟩)
end
end Mine
end
section
open PySem
set_option linter.unusedVariables false
set_option Elab.async false
namespace Mine
inductive Cut (l : List Nat) : Nat → List (Nat × Nat) → Nat → Prop where
  | nil {a : Nat} : Cut l a [] a
  | cons {k e b : Nat} {ms : List (Nat × Nat)} : Mk l k e → Cut l e ms b → Cut l k ((k, e) :: ms) b
section
variable {l : List Nat}
theorem Cut.le {a b : Nat} {ms : List (Nat × Nat)} (h : Cut l a ms b) : a ≤ b := by
  induction h with
  | nil => exact Nat.le_refl _
  | cons h _ ih => have := h.lt; lia
theorem Cut.lt {a b : Nat} {ms : List (Nat × Nat)} (h : Cut l a ms b) (hn : ms ≠ []) : a < b := by
  cases h with
  | nil => exact absurd rfl hn
  | cons h1 h2 => have := h1.lt; have := h2.le; lia
theorem Cut.app {a b c : Nat} {ms ns : List (Nat × Nat)} (h : Cut l a ms b) (h' : Cut l b ns c) : Cut l a (ms ++ ns) c := by
  induction h with
  | nil => exact h'
  | cons h _ ih => exact .cons h (ih h')
theorem Cut.one {k e : Nat} (h : Mk l k e) : Cut l k [(k, e)] e := .cons h .nil
theorem Cut.leN {a b : Nat} {ms : List (Nat × Nat)} (h : Cut l a ms b) (ha : a ≤ l.length) : b ≤ l.length := by
  induction h with
  | nil => exact ha
  | cons h _ ih => exact ih h.leN
theorem Cut.len {a b : Nat} {ms : List (Nat × Nat)} (h : Cut l a ms b) : ms.length ≤ b - a := by
  induction h with
  | nil => exact Nat.zero_le _
  | cons h h' ih => have := h.lt; have := h'.le; rw [List.length_cons]; lia
noncomputable def hashOk : List Nat → Bool
  | d :: _ => !Unicode.isSpace d
  | [] => false
noncomputable def rowJunk : List Nat → Bool
  | c :: t => c == 10 || (c == 35 && hashOk t)
  | [] => false
noncomputable def Junk (l : List Nat) (p : Nat) : Bool := rowJunk ((l.drop p).dropWhile isBl)
structure LS where
  last : List (Nat × Nat)
  row : List (Nat × Nat)
  d : Nat
noncomputable def chr (l : List Nat) (k : Nat) : Nat := l.getD k 0
theorem chr_at {k c : Nat} (h : l[k]? = some c) : chr l k = c := by unfold chr; rw [List.getD_eq_getElem?_getD, h]; rfl
noncomputable def closes (l : List Nat) (d : Nat) (m : Nat × Nat) : Bool := m.2 == l.length || (lvlM (chr l m.1) d == 0 && isEnd (chr l m.1))
noncomputable def ls1 (l : List Nat) (s : LS) (m : Nat × Nat) : LS :=
  if closes l s.d m then ⟨if Junk l ((s.row ++ [m]).headD m).1 then s.last else s.row ++ [m], [], lvlM (chr l m.1) s.d⟩
  else ⟨s.last, s.row ++ [m], lvlM (chr l m.1) s.d⟩
structure Rows (l : List Nat) (bs : List Nat) (s : LS) (k : Nat) : Prop where
  zero : bs[0]? = some 0
  inc : bs.Pairwise (· < ·)
  nl : ∀ b ∈ bs, b = 0 ∨ (0 < b ∧ l[b - 1]? = some 10)
  row : ∃ a, bs[bs.length - 1]? = some a ∧ Cut l a s.row k
  last : (s.last = [] ∧ ∀ (i b : Nat), i + 1 < bs.length → bs[i]? = some b → Junk l b = true) ∨
    ∃ i a b, bs[i]? = some a ∧ bs[i + 1]? = some b ∧ s.last ≠ [] ∧ Cut l a s.last b ∧ Junk l a = false ∧ ∀ (j c : Nat), i < j → j + 1 < bs.length → bs[j]? = some c → Junk l c = true
theorem Rows.more {bs : List Nat} {s : LS} {k e d : Nat} (H : Rows l bs s k) (hm : Mk l k e) : Rows l bs ⟨s.last, s.row ++ [(k, e)], d⟩ e :=
  ⟨H.zero, H.inc, H.nl, let ⟨a, h1, h2⟩ := H.row; ⟨a, h1, h2.app (.one hm)⟩, H.last⟩
theorem Rows.pos {bs : List Nat} {s : LS} {k : Nat} (H : Rows l bs s k) : 0 < bs.length := by
  rcases Nat.eq_zero_or_pos bs.length with h | h
  · have := H.zero; rw [List.getElem?_eq_none (by lia)] at this; cases this
  · exact h
theorem head_row {a k e : Nat} {row : List (Nat × Nat)} (h : Cut l a row k) : ((row ++ [(k, e)]).headD (k, e)).1 = a := by
  cases h with
  | nil => rfl
  | cons _ _ => rfl
theorem Rows.close {bs : List Nat} {s : LS} {k e d : Nat} (H : Rows l bs s k) (hm : Mk l k e) (h10 : l[e - 1]? = some 10) :
    Rows l (bs ++ [e]) ⟨if Junk l ((s.row ++ [(k, e)]).headD (k, e)).1 then s.last else s.row ++ [(k, e)], [], d⟩ e := by
  obtain ⟨a, h1, h2⟩ := H.row
  have hp := H.pos
  have hlt : ∀ b ∈ bs, b < e := fun b hb => by
    have hle := h2.le
    have := hm.lt
    obtain ⟨i, hi⟩ := List.mem_iff_getElem?.mp hb
    have hil : i < bs.length := (List.getElem?_eq_some_iff.mp hi).1
    rcases Nat.lt_or_ge i (bs.length - 1) with q | q
    · obtain ⟨hj, ej⟩ := List.getElem?_eq_some_iff.mp h1
      obtain ⟨hi', ei⟩ := List.getElem?_eq_some_iff.mp hi
      have := List.pairwise_iff_getElem.mp H.inc i (bs.length - 1) hi' hj q
      lia
    · have : i = bs.length - 1 := by lia
      subst this
      rw [h1] at hi; cases hi; lia
  have old : ∀ i, i < bs.length → (bs ++ [e])[i]? = bs[i]? := fun i hi => List.getElem?_append_left hi
  have new : (bs ++ [e])[bs.length]? = some e := by simp
  refine ⟨by rw [old 0 hp]; exact H.zero, ?_, ?_, ?_, ?_⟩
  · rw [List.pairwise_append]
    exact ⟨H.inc, List.pairwise_singleton _ _, fun b hb c hc => by rw [List.mem_singleton.mp hc]; exact hlt b hb⟩
  · intro b hb
    rcases List.mem_append.mp hb with hb | hb
    · exact H.nl b hb
    · rw [List.mem_singleton.mp hb]
      exact .inr ⟨by have := hm.lt; lia, h10⟩
  · refine ⟨e, ?_, .nil⟩
    rw [List.length_append, List.length_singleton, Nat.add_sub_cancel]; exact new
  · rw [head_row h2]
    have hlen : (bs ++ [e]).length = bs.length + 1 := by simp
    cases hj : Junk l a with
    | true =>
      rw [if_pos rfl]
      rcases H.last with ⟨e0, hall⟩ | ⟨i, x, y, hx, hy, hne, hcut, hjx, hall⟩
      · refine .inl ⟨e0, fun i b hi hb => ?_⟩
        rw [hlen] at hi
        rw [old i (by lia)] at hb
        rcases Nat.lt_or_ge (i + 1) bs.length with q | q
        · exact hall i b q hb
        · rw [show i = bs.length - 1 by lia, h1] at hb; cases hb; exact hj
      · have hil : i + 1 < bs.length := (List.getElem?_eq_some_iff.mp hy).1
        refine .inr ⟨i, x, y, by rw [old i (by lia)]; exact hx, by rw [old _ hil]; exact hy, hne, hcut, hjx, fun j c hij hj' hc => ?_⟩
        rw [hlen] at hj'
        rw [old j (by lia)] at hc
        rcases Nat.lt_or_ge (j + 1) bs.length with q | q
        · exact hall j c hij q hc
        · rw [show j = bs.length - 1 by lia, h1] at hc; cases hc; exact hj
    | false =>
      rw [if_neg Bool.false_ne_true]
      refine .inr ⟨bs.length - 1, a, e, by rw [old _ (by lia)]; exact h1, by rw [show bs.length - 1 + 1 = bs.length by lia]; exact new, by simp, h2.app (.one hm), hj, fun j c hij hj' hc => ?_⟩
      rw [hlen] at hj'
      lia
theorem rows_go (hlast : l[l.length - 1]? = some 10) {k n : Nat} {ms : List (Nat × Nat)} (h : Cut l k ms n) : n = l.length → k < l.length → ∀ {bs : List Nat} {s : LS} {m : Mode}, Rows l bs s k → Ready l k m →
    ∃ bs', Rows l bs' (ms.foldl (ls1 l) s) l.length ∧ bs'[bs'.length - 1]? = some l.length ∧ goodOf (run m ((l.drop k).map tr) ⟨s.d, nlc l k, bs.map (nlc l)⟩) = bs'.map (nlc l) := by
  induction h with
  | nil => intro h1 h2; lia
  | @cons k e n ms hm hc ih =>
    intro hn hk bs s m H hr
    obtain ⟨c, hck⟩ : ∃ c, l[k]? = some c := ⟨_, List.getElem?_eq_getElem hk⟩
    obtain ⟨m', hr', hrun⟩ := mk_read (v := s.d) (g := bs.map (nlc l)) hm hck hr
    rw [hrun, List.foldl_cons]
    have hch : chr l k = c := chr_at hck
    have hle := hm.leN
    have hlt := hm.lt
    have hlvl : isEnd c = true → lvlM c s.d = s.d := fun h => by
      unfold isEnd at h
      rw [Bool.or_eq_true, beq_iff_eq, beq_iff_eq] at h
      unfold lvlM isOp isCl
      rcases h with rfl | rfl <;> rfl
    have hend : isEnd c = true → l[e - 1]? = some 10 := fun h => by
      unfold isEnd at h
      rw [Bool.or_eq_true, beq_iff_eq, beq_iff_eq] at h
      cases hm with
      | one h1 h35 _ _ _ =>
        rw [hck] at h1; cases h1
        rcases h with rfl | rfl
        · exact hck
        · exact absurd rfl h35
      | com _ _ hx _ => exact hx
      | bs h1 _ => rw [hck] at h1; cases h1; lia
      | s3h hq h1 _ _ => have h1 := h1.1; rw [hck] at h1; cases h1; lia
      | s3e hq h1 _ => have h1 := h1.1; rw [hck] at h1; cases h1; lia
      | s1h hq h1 _ _ _ => rw [hck] at h1; cases h1; lia
      | s1e hq h1 _ _ _ => rw [hck] at h1; cases h1; lia
    by_cases hel : e = l.length
    · /- the text's end -/
      subst hel
      have : ms = [] := by
        cases ms with
        | nil => rfl
        | cons _ _ => have := hc.lt (by simp); lia
      subst this
      have hcl : closes l s.d (k, l.length) = true := by unfold closes; simp
      have H' := H.close (d := lvlM c s.d) hm hlast
      refine ⟨bs ++ [l.length], ?_, by simp, ?_⟩
      · show Rows l _ (ls1 l s (k, l.length)) _
        unfold ls1
        rw [if_pos hcl]
        show Rows l _ ⟨_, [], lvlM (chr l k) s.d⟩ _
        rw [hch]
        exact H'
      · rw [List.drop_length, List.map_nil]
        show goodOf (m', ⟨lvlM c s.d, nlc l l.length, goodM c s.d (nlc l l.length) (bs.map (nlc l))⟩) = _
        unfold goodOf goodM
        dsimp only
        rw [List.map_append, List.map_singleton]
        by_cases hg : isEnd c = true ∧ s.d = 0
        · rw [if_pos hg, if_pos (by simp)]
        · rw [if_neg hg, if_neg]
          intro hx
          obtain ⟨a, h1, h2⟩ := H.row
          have hb : (bs.map (nlc l)).getLast? = some (nlc l a) := by
            rw [List.getLast?_eq_getElem?, List.length_map, List.getElem?_map, h1]; rfl
          rw [hb] at hx
          have hx := Option.some.inj hx
          have := h2.le
          have h3 := nlc_mono (l := l) (a := a) (b := l.length - 1) (by lia)
          have h4 := nlc_nl hlast
          rw [show l.length - 1 + 1 = l.length by lia] at h4
          lia
    · have hek : e < l.length := by lia
      by_cases hg : isEnd c = true ∧ s.d = 0
      · have hcl : closes l s.d (k, e) = true := by
          unfold closes
          rw [Bool.or_eq_true]
          right
          show (lvlM (chr l k) s.d == 0 && isEnd (chr l k)) = true
          rw [hch, hlvl hg.1, hg.1, hg.2]; rfl
        have H' := H.close (d := lvlM c s.d) hm (hend hg.1)
        obtain ⟨bs', r1, r2, r3⟩ := ih hn hek (s := ls1 l s (k, e)) (bs := bs ++ [e]) (m := m') (by
          unfold ls1
          rw [if_pos hcl]
          show Rows l _ ⟨_, [], lvlM (chr l k) s.d⟩ _
          rw [hch]
          exact H') hr'
        refine ⟨bs', r1, r2, ?_⟩
        rw [← r3]
        unfold ls1 goodM
        rw [if_pos hcl, if_pos hg, List.map_append, List.map_singleton]
        show _ = goodOf (run m' _ ⟨lvlM (chr l k) s.d, _, _⟩)
        rw [hch]
      · have hcl : ¬ closes l s.d (k, e) = true := by
          unfold closes
          rw [Bool.or_eq_true, beq_iff_eq]
          rintro (h | h)
          · exact hel h
          · change (lvlM (chr l k) s.d == 0 && isEnd (chr l k)) = true at h
            rw [hch, Bool.and_eq_true, beq_iff_eq] at h
            exact hg ⟨h.2, (hlvl h.2) ▸ h.1⟩
        obtain ⟨bs', r1, r2, r3⟩ := ih hn hek (s := ls1 l s (k, e)) (bs := bs) (m := m') (by
          unfold ls1
          rw [if_neg hcl]
          exact H.more hm) hr'
        refine ⟨bs', r1, r2, ?_⟩
        rw [← r3]
        unfold ls1 goodM
        rw [if_neg hcl, if_neg hg]
        show _ = goodOf (run m' _ ⟨lvlM (chr l k) s.d, _, _⟩)
        rw [hch]
theorem rows_all (hne : l ≠ []) (hlast : l.getLast? = some 10) {ms : List (Nat × Nat)} (h : Cut l 0 ms l.length) :
    ∃ bs, Rows l bs (ms.foldl (ls1 l) ⟨[], [], 0⟩) l.length ∧ bs[bs.length - 1]? = some l.length ∧ goodOf (read l) = bs.map (nlc l) := by
  rw [List.getLast?_eq_getElem?] at hlast
  have hp := List.length_pos_iff.mpr hne
  have H0 : Rows l [0] ⟨[], [], 0⟩ 0 := ⟨rfl, List.pairwise_singleton _ _, fun b hb => .inl (List.mem_singleton.mp hb), ⟨0, rfl, .nil⟩, .inl ⟨rfl, fun i b hi _ => by simp at hi⟩⟩
  obtain ⟨bs, h1, h2, h3⟩ := rows_go hlast h rfl hp H0 (.inl ⟨false, rfl⟩)
  exact ⟨bs, h1, h2, h3⟩
end
section
variable {l : List Nat}
theorem cnt1_take {P : Nat → Bool} : ∀ (n p : Nat), n = l.length - p → cnt1 P l.toArray n p = ((l.drop p).takeWhile P).length
  | 0, p, h => by
    rw [List.drop_of_length_le (by lia)]; rfl
  | n + 1, p, h => by
    have hp : p < l.length := by lia
    unfold cnt1
    rw [List.drop_eq_getElem_cons hp, List.takeWhile_cons]
    have : l.toArray.getD p 0 = l[p] := at_is (List.getElem?_eq_getElem hp)
    rw [this]
    by_cases h1 : P l[p] = true
    · rw [if_pos h1, if_pos h1, cnt1_take n (p + 1) (by lia), List.length_cons]
    · rw [if_neg h1, if_neg h1]; rfl
theorem while_split (P : Nat → Bool) (t : List Nat) : t.dropWhile P = t.drop (t.takeWhile P).length := by
  induction t with
  | nil => rfl
  | cons a t ih =>
    rw [List.dropWhile_cons, List.takeWhile_cons]
    cases P a with
    | true => simp only [if_true, List.length_cons, List.drop_succ_cons]; exact ih
    | false => rfl
theorem junk_at {p n : Nat} (hn : cnt1 isBl l.toArray (l.length - p) p = n) : Junk l p = rowJunk (l.drop (p + n)) := by
  unfold Junk
  rw [while_split, ← cnt1_take (P := isBl) (l.length - p) p rfl, hn, List.drop_drop]
theorem junk_re (hlast : l[l.length - 1]? = some 10) (hl : l.length ≤ 100000) {p h : Nat} {o : Bool} (hp : p < l.length) : ∃ r, Endd c2 l.toArray l.length 1000000 ⟨5, p, h, o, #[], none, [], none⟩ r ∧ r.isSome = Junk l p := by
  obtain ⟨n, hn⟩ : ∃ n, cnt1 isBl l.toArray (l.length - p) p = n := ⟨_, rfl⟩
  rw [junk_at hn]
  have hle : n ≤ l.length - p := hn ▸ cnt1_le _ _
  have hlt : p + n < l.length := by
    refine Nat.lt_of_le_of_ne (by lia) fun e => ?_
    have := cnt1_all (text := l.toArray) (P := isBl) (l.length - p) p (l.length - 1 - p) (by rw [hn]; lia)
    rw [show p + (l.length - 1 - p) = l.length - 1 by lia, at_is hlast] at this
    exact absurd this (by decide)
  obtain ⟨c, hc⟩ : ∃ c, l[p + n]? = some c := ⟨_, List.getElem?_eq_getElem hlt⟩
  have hg := at_is hc
  rw [drop_at hc]
  rw [show rowJunk (c :: l.drop (p + n + 1)) = (c == 10 || (c == 35 && hashOk (l.drop (p + n + 1)))) from rfl]
  by_cases h10 : c = 10
  · subst h10
    exact ⟨_, (junk_yes0 (by lia) hl hn hlt hg).le (by lia), rfl⟩
  have hb : (c == 10) = false := by simpa using h10
  rw [hb, Bool.false_or]
  by_cases h35 : c = 35
  · subst h35
    rw [show ((35 : Nat) == 35) = true from rfl, Bool.true_and]
    have hlt1 : p + n + 1 < l.length := by
      refine Nat.lt_of_le_of_ne (by lia) fun e => ?_
      rw [← e, Nat.add_sub_cancel, hc] at hlast; cases hlast
    obtain ⟨d, hd⟩ : ∃ d, l[p + n + 1]? = some d := ⟨_, List.getElem?_eq_getElem hlt1⟩
    rw [drop_at hd, show hashOk (d :: l.drop (p + n + 1 + 1)) = !Unicode.isSpace d from rfl]
    have hgd := at_is hd
    cases hs : Unicode.isSpace d with
    | true =>
      refine ⟨none, (junk_no (by lia) hl hn (fun _ => by rw [hg]; decide) (fun _ _ _ => by rw [hgd]; exact hs)).le (by lia), rfl⟩
    | false =>
      have hd10 : d ≠ 10 := fun e => by subst e; exact absurd hs (by decide +kernel)
      obtain ⟨n2, hn2⟩ : ∃ n2, cnt1 (fun c => c != 10) l.toArray (l.length - (p + n + 2)) (p + n + 2) = n2 := ⟨_, rfl⟩
      have hle2 : n2 ≤ l.length - (p + n + 2) := hn2 ▸ cnt1_le _ _
      have hlt2 : p + n + 2 < l.length := by
        refine Nat.lt_of_le_of_ne (by lia) fun e => ?_
        rw [← e, show p + n + 2 - 1 = p + n + 1 by lia, hd] at hlast; exact hd10 (Option.some.inj hlast)
      have hlt3 : p + n + 2 + n2 < l.length := by
        refine Nat.lt_of_le_of_ne (by lia) fun e => ?_
        have := cnt1_all (text := l.toArray) (P := fun c => c != 10) (l.length - (p + n + 2)) (p + n + 2) (l.length - 1 - (p + n + 2)) (by rw [hn2]; lia)
        rw [show p + n + 2 + (l.length - 1 - (p + n + 2)) = l.length - 1 by lia, at_is hlast] at this
        exact absurd this (by decide)
      have hstop := cnt1_stop (text := l.toArray) (P := fun c => c != 10) (l.length - (p + n + 2)) (p + n + 2) (by rw [hn2]; lia)
      rw [hn2] at hstop
      have h10' : l.toArray.getD (p + n + 2 + n2) 0 = 10 := by simpa using hstop
      exact ⟨_, (junk_yes1 (by lia) hl hn hlt1 hg (by rw [hgd]; exact hs) hn2 hlt3 h10').le (by lia), rfl⟩
  · have hb : (c == 35) = false := by simpa using h35
    rw [hb, Bool.false_and]
    refine ⟨none, (junk_no (by lia) hl hn (fun _ => by rw [hg]; exact h10) (fun _ h _ => by rw [hg] at h; exact absurd h h35)).le (by lia), rfl⟩
noncomputable def lineJunk : List Nat → Bool
  | [] => true
  | c :: t => c == 35 && hashOk t
theorem junk_line {k m : Nat} (hkm : k ≤ m) (hm : l[m]? = some 10) (hno : ∀ j, k ≤ j → j < m → l[j]? ≠ some 10) {line : List Nat} (hline : ((l.drop k).take (m - k)).dropWhile isBl = line) :
    Junk l k = lineJunk line := by
  have hsplit : l.drop k = (l.drop k).take (m - k) ++ 10 :: l.drop (m + 1) := by
    conv => lhs; rw [← List.take_append_drop (m - k) (l.drop k)]
    rw [List.drop_drop, show k + (m - k) = m by lia, drop_at hm]
  have hmem : ∀ c ∈ (l.drop k).take (m - k), c ≠ 10 := fun c hc e => by
    subst e
    obtain ⟨i, hi⟩ := List.mem_iff_getElem?.mp hc
    have hi' : i < m - k := by
      rcases Nat.lt_or_ge i (m - k) with q | q
      · exact q
      · rw [List.getElem?_eq_none (by rw [List.length_take]; lia)] at hi; cases hi
    rw [List.getElem?_take_of_lt hi', List.getElem?_drop] at hi
    exact hno (k + i) (by lia) (by lia) hi
  generalize (l.drop k).take (m - k) = row at hsplit hmem hline
  unfold Junk
  rw [hsplit]
  have key : ∀ row : List Nat, (row ++ 10 :: l.drop (m + 1)).dropWhile isBl = row.dropWhile isBl ++ 10 :: l.drop (m + 1) := fun row => by
    induction row with
    | nil => rfl
    | cons a t ih =>
      rw [List.cons_append, List.dropWhile_cons, List.dropWhile_cons]
      cases isBl a with
      | true => exact ih
      | false => rfl
  rw [key, hline]
  have hml : ∀ c ∈ line, c ≠ 10 := fun c hc => hmem c (by rw [← hline] at hc; exact (List.dropWhile_sublist _).subset hc)
  match line, hml with
  | [], _ => rfl
  | [c], h =>
    have : (c == 10) = false := by simpa using h c (by simp)
    show (c == 10 || (c == 35 && !Unicode.isSpace 10)) = (c == 35 && false)
    rw [this, show Unicode.isSpace 10 = true by decide +kernel]; rfl
  | c :: d :: t, h =>
    have : (c == 10) = false := by simpa using h c (by simp)
    show (c == 10 || _) = _
    rw [this, Bool.false_or]; rfl
end
structure FS where
  stk : List Nat
  rows : List (Nat × Nat)
  ch : List Nat
noncomputable def chOf (l : List Nat) (k : Nat) : List Nat :=
  let c := chr l k
  if c = 32 ∨ c = 9 ∨ c = 10 ∨ c = 35 then [] else if c = 92 then (if chr l (k + 1) = 10 then [] else [92, chr l (k + 1)]) else [c]
noncomputable def newer (a b : List Nat) : List Nat := if b = [] then a else b
noncomputable def stk1 (l : List Nat) (s : List Nat) (m : Nat × Nat) : List Nat := if isOp (chr l m.1) then s ++ [m.1] else if isCl (chr l m.1) then s.dropLast else s
noncomputable def rows1 (l : List Nat) (d : Nat) (m : Nat × Nat) : List (Nat × Nat) :=
  let c := chr l m.1
  if isOp c then [(m.1, d + 1)] else if isCl c then [(m.2, d - 1)] else if c = 34 ∨ c = 39 ∨ c = 35 then [(m.1, d + 1), (m.2, d)] else []
noncomputable def fs1 (l : List Nat) (s : FS) (m : Nat × Nat) : FS := ⟨stk1 l s.stk m, s.rows ++ rows1 l s.stk.length m, newer s.ch (chOf l m.1)⟩
structure BS where
  ch : List Nat
  op : Option Nat
  cl : Int
noncomputable def bs1 (l : List Nat) (s : BS) (m : Nat × Nat) : BS :=
  ⟨newer (chOf l m.1) s.ch, if isOp (chr l m.1) ∧ s.cl = 0 ∧ s.op = none then some m.1 else s.op, if isCl (chr l m.1) then s.cl + 1 else if isOp (chr l m.1) then s.cl - 1 else s.cl⟩
section
variable {l : List Nat}
theorem snoc_ind {α : Type} {P : List α → Prop} (nil : P []) (snoc : ∀ l a, P l → P (l ++ [a])) (l : List α) : P l := by
  have : ∀ l : List α, P l.reverse := fun l => by
    induction l with
    | nil => exact nil
    | cons a l ih => rw [List.reverse_cons]; exact snoc _ _ ih
  rw [← List.reverse_reverse l]; exact this _
theorem newer_assoc (a b c : List Nat) : newer (newer a b) c = newer a (newer b c) := by
  unfold newer
  by_cases hc : c = []
  · rw [if_pos hc, if_pos hc]
  · rw [if_neg hc, if_neg hc, if_neg hc]
theorem newer_nil (a : List Nat) : newer a [] = a := if_pos rfl
theorem nil_newer (a : List Nat) : newer [] a = a := by
  unfold newer
  by_cases h : a = []
  · rw [if_pos h, h]
  · rw [if_neg h]
theorem op_cl {c : Nat} (h : isOp c = true) : isCl c = false := by
  unfold isOp at h; unfold isCl
  simp only [Bool.or_eq_true, beq_iff_eq] at h
  simp only [Bool.or_eq_false_iff, beq_eq_false_iff_ne]
  lia
theorem fold_ch (ms : List (Nat × Nat)) : ∀ s : FS, (ms.foldl (fs1 l) s).ch = newer s.ch ((ms.reverse.foldl (bs1 l) ⟨[], none, 0⟩).ch) := by
  induction ms using snoc_ind with
  | nil => intro s; exact (newer_nil _).symm
  | snoc ms m ih =>
    intro s
    rw [List.foldl_append, List.reverse_append, List.foldl_append]
    show newer (ms.foldl (fs1 l) s).ch (chOf l m.1) = newer s.ch (List.foldl (bs1 l) (bs1 l ⟨[], none, 0⟩ m) ms.reverse).ch
    have key : ∀ (ns : List (Nat × Nat)) (b : BS), (ns.foldl (bs1 l) b).ch = newer ((ns.foldl (bs1 l) ⟨[], none, 0⟩).ch) b.ch := fun ns => by
      induction ns with
      | nil => intro b; exact (nil_newer _).symm
      | cons n ns ih =>
        intro b
        rw [List.foldl_cons, List.foldl_cons, ih (bs1 l b n), ih (bs1 l ⟨[], none, 0⟩ n)]
        show newer _ (newer (chOf l n.1) b.ch) = newer (newer _ (newer (chOf l n.1) [])) b.ch
        rw [newer_nil, newer_assoc]
    rw [ih, newer_assoc, key ms.reverse (bs1 l ⟨[], none, 0⟩ m)]
    show _ = newer s.ch (newer _ (newer (chOf l m.1) []))
    rw [newer_nil]
theorem fold_op (ms : List (Nat × Nat)) : ∀ (c : Nat) (op : Option Nat) (ch : List Nat) (cl : Int), (op ≠ none ∨ cl = c) →
    (ms.reverse.foldl (bs1 l) ⟨ch, op, cl⟩).op = if op = none then ((ms.foldl (stk1 l) []).take ((ms.foldl (stk1 l) []).length - c)).getLast? else op := by
  induction ms using snoc_ind with
  | nil =>
    intro c op ch cl _
    cases op with
    | none => rw [if_pos rfl]; show none = (List.take _ []).getLast?; simp
    | some o => rfl
  | snoc ms m ih =>
    intro c op ch cl h
    rw [List.reverse_append, List.foldl_append, List.foldl_append]
    show (ms.reverse.foldl (bs1 l) (bs1 l ⟨ch, op, cl⟩ m)).op = if op = none then ((stk1 l (ms.foldl (stk1 l) []) m).take ((stk1 l (ms.foldl (stk1 l) []) m).length - c)).getLast? else op
    generalize hS : ms.foldl (stk1 l) [] = S at ih ⊢
    rw [show bs1 l ⟨ch, op, cl⟩ m = ⟨newer (chOf l m.1) ch, if isOp (chr l m.1) ∧ cl = 0 ∧ op = none then some m.1 else op, if isCl (chr l m.1) then cl + 1 else if isOp (chr l m.1) then cl - 1 else cl⟩ from rfl,
      show stk1 l S m = (if isOp (chr l m.1) then S ++ [m.1] else if isCl (chr l m.1) then S.dropLast else S) from rfl]
    cases op with
    | some o =>
      have hso : ¬ ((some o : Option Nat) = none) := by simp
      rw [if_neg (show ¬ (isOp (chr l m.1) = true ∧ cl = 0 ∧ (some o : Option Nat) = none) from fun h => hso h.2.2), if_neg hso]
      have := ih 0 (some o) (newer (chOf l m.1) ch) (if isCl (chr l m.1) then cl + 1 else if isOp (chr l m.1) then cl - 1 else cl) (.inl hso)
      rw [if_neg hso] at this
      exact this
    | none =>
      have hcl : cl = c := h.resolve_left (by simp)
      subst hcl
      rw [if_pos rfl]
      by_cases ho : isOp (chr l m.1) = true
      · have hnc : ¬ (isCl (chr l m.1) = true) := fun h => by rw [op_cl ho] at h; cases h
        rw [if_neg hnc, if_pos ho, if_pos ho]
        cases c with
        | zero =>
          rw [if_pos ⟨ho, rfl, rfl⟩]
          have := ih 0 (some m.1) (newer (chOf l m.1) ch) (((0 : Nat) : Int) - 1) (.inl (by simp))
          rw [this, if_neg (by simp), Nat.sub_zero, List.take_length, List.getLast?_concat]
        | succ c =>
          rw [if_neg (by rintro ⟨_, h, _⟩; lia)]
          have := ih c none (newer (chOf l m.1) ch) (((c + 1 : Nat) : Int) - 1) (.inr (by lia))
          rw [this, if_pos rfl, List.length_append, List.length_singleton, show S.length + 1 - (c + 1) = S.length - c by lia, List.take_append_of_le_length (by lia)]
      · rw [if_neg (show ¬ (isOp (chr l m.1) = true ∧ ((c : Nat) : Int) = 0 ∧ (none : Option Nat) = none) from fun h => ho h.1)]
        by_cases hc : isCl (chr l m.1) = true
        · rw [if_pos hc, if_neg ho, if_pos hc]
          have := ih (c + 1) none (newer (chOf l m.1) ch) ((c : Int) + 1) (.inr (by lia))
          rw [this, if_pos rfl, List.length_dropLast, List.dropLast_eq_take, List.take_take, show min (S.length - 1 - c) (S.length - 1) = S.length - (c + 1) by lia]
        · rw [if_neg hc, if_neg ho, if_neg hc]
          have := ih c none (newer (chOf l m.1) ch) (c : Int) (.inr rfl)
          rw [this, if_pos rfl, if_neg ho]
theorem fold_stk (ms : List (Nat × Nat)) : ∀ s : FS, (ms.foldl (fs1 l) s).stk = ms.foldl (stk1 l) s.stk := by
  induction ms with
  | nil => intro s; rfl
  | cons m ms ih => intro s; rw [List.foldl_cons, List.foldl_cons, ih]; rfl
theorem last_open (ms : List (Nat × Nat)) : (ms.reverse.foldl (bs1 l) ⟨[], none, 0⟩).op = (ms.foldl (stk1 l) []).getLast? := by
  rw [fold_op ms 0 none [] 0 (.inr rfl), if_pos rfl, Nat.sub_zero, List.take_length]
noncomputable def blank (c : Nat) : Bool := c == 32 || c == 9 || c == 10
theorem chOf_plain {k c : Nat} (h : l[k]? = some c) (ho : isOrd c = true) : chOf l k = if blank c then [] else [c] := by
  unfold chOf blank
  rw [chr_at h]
  have h35 : c ≠ 35 := fun e => by subst e; exact absurd ho (by decide)
  have h92 : c ≠ 92 := fun e => by subst e; exact absurd ho (by decide)
  dsimp only
  by_cases hb : c = 32 ∨ c = 9 ∨ c = 10
  · rw [if_pos (by lia), if_pos (by simpa [or_assoc] using hb)]
  · rw [if_neg (by lia), if_neg h92, if_neg (by simpa [or_assoc] using hb)]
noncomputable def lastOf (l : List Nat) (p : Nat) : Nat → List Nat
  | 0 => []
  | n + 1 => newer (lastOf l p n) (if blank (chr l (p + n)) then [] else [chr l (p + n)])
theorem ord_mk {p e c : Nat} (h : Mk l p e) (hc : l[p]? = some c) (ho : isOrd c = true) : e = p + 1 := by
  cases h with
  | one _ _ _ _ _ => rfl
  | com h1 _ _ _ => rw [hc] at h1; cases h1; exact absurd ho (by decide)
  | bs h1 _ => rw [hc] at h1; cases h1; exact absurd ho (by decide)
  | s3h hq h1 _ _ => have h1 := h1.1; rw [hc] at h1; cases h1; rcases hq with rfl | rfl <;> exact absurd ho (by decide)
  | s3e hq h1 _ => have h1 := h1.1; rw [hc] at h1; cases h1; rcases hq with rfl | rfl <;> exact absurd ho (by decide)
  | s1h hq h1 _ _ _ => rw [hc] at h1; cases h1; rcases hq with rfl | rfl <;> exact absurd ho (by decide)
  | s1e hq h1 _ _ _ => rw [hc] at h1; cases h1; rcases hq with rfl | rfl <;> exact absurd ho (by decide)
theorem ord_fs {k e c : Nat} (h : l[k]? = some c) (ho : isOrd c = true) (F : FS) : fs1 l F (k, e) = ⟨F.stk, F.rows, newer F.ch (if blank c then [] else [c])⟩ := by
  have hn : isOp c = false ∧ isCl c = false ∧ ¬ (c = 34 ∨ c = 39 ∨ c = 35) := by
    unfold isOrd at ho
    simp only [Bool.not_eq_true', Bool.or_eq_false_iff, beq_eq_false_iff_ne] at ho
    unfold isOp isCl
    simp only [Bool.or_eq_false_iff, beq_eq_false_iff_ne]
    lia
  unfold fs1 stk1 rows1
  rw [chOf_plain h ho]
  dsimp only
  rw [chr_at h, hn.1, hn.2.1, if_neg Bool.false_ne_true, if_neg Bool.false_ne_true, if_neg Bool.false_ne_true, if_neg Bool.false_ne_true, if_neg hn.2.2, List.append_nil]
theorem chew {n : Nat} : ∀ {p q : Nat} {rest : List (Nat × Nat)}, Cut l p rest q → p + n ≤ q → (∀ j, j < n → isOrd (chr l (p + j)) = true) → q ≤ l.length → ∀ F : FS,
    ∃ rest', Cut l (p + n) rest' q ∧ rest.foldl (fs1 l) F = rest'.foldl (fs1 l) ⟨F.stk, F.rows, newer F.ch (lastOf l p n)⟩ := by
  induction n with
  | zero => exact fun {p q rest} h _ _ _ F => ⟨rest, h, by rw [lastOf, newer_nil]⟩
  | succ n ih =>
    intro p q rest h hq ho hl F
    obtain ⟨rest1, h1, h2⟩ := ih h (by lia) (fun j hj => ho j (by lia)) hl F
    obtain ⟨c, hc⟩ : ∃ c, l[p + n]? = some c := ⟨_, List.getElem?_eq_getElem (by lia)⟩
    have hoc := ho n (by lia)
    rw [chr_at hc] at hoc
    cases h1 with
    | nil => lia
    | @cons _ e _ ms hm hcut =>
      have := ord_mk hm hc hoc
      subst this
      refine ⟨ms, hcut, ?_⟩
      rw [h2, List.foldl_cons, ord_fs hc hoc]
      show _ = ms.foldl (fs1 l) ⟨F.stk, F.rows, newer F.ch (newer (lastOf l p n) (if blank (chr l (p + n)) then [] else [chr l (p + n)]))⟩
      rw [newer_assoc, chr_at hc]
theorem lastOf_none {p : Nat} : ∀ {n : Nat}, (∀ j, j < n → blank (chr l (p + j)) = true) → lastOf l p n = []
  | 0, _ => rfl
  | n + 1, h => by
    rw [lastOf, lastOf_none fun j hj => h j (by lia), h n (by lia)]; rfl
theorem lastOf_at {p : Nat} : ∀ {n i : Nat}, i < n → blank (chr l (p + i)) = false → (∀ j, i < j → j < n → blank (chr l (p + j)) = true) → lastOf l p n = [chr l (p + i)]
  | 0, i, h, _, _ => by lia
  | n + 1, i, h, hb, ha => by
    rw [lastOf]
    by_cases hi : i = n
    · subst hi
      rw [hb]; rfl
    · rw [ha n (by lia) (by lia), if_pos rfl, newer_nil, lastOf_at (by lia) hb fun j h1 h2 => ha j h1 (by lia)]
end
section
variable {l : List Nat}
theorem nlc_none : ∀ (n : Nat) {a b : Nat}, b = a + n → b ≤ l.length → (∀ j, a ≤ j → j < b → l[j]? ≠ some 10) → nlc l b = nlc l a
  | 0, a, b, h, _, _ => by rw [h, Nat.add_zero]
  | n + 1, a, b, h, hb, hn => by
    have hlt : b - 1 < l.length := by lia
    obtain ⟨c, hc⟩ : ∃ c, l[b - 1]? = some c := ⟨_, List.getElem?_eq_getElem hlt⟩
    have h1 := nlc_other hc fun e => hn (b - 1) (by lia) (by lia) (by rw [hc, e])
    rw [show b - 1 + 1 = b by lia] at h1
    rw [h1]
    exact nlc_none n (by lia) (by lia) fun j h1 h2 => hn j h1 (by lia)
noncomputable def Begin (l : List Nat) (p : Nat) : Prop := p = 0 ∨ (0 < p ∧ l[p - 1]? = some 10)
theorem Begin.none {p : Nat} (h : Begin l p) (h0 : 0 < p) (hp : p ≤ l.length) (hn : ∀ j, j < p - 1 → l[j]? ≠ some 10) : nlc l p = 1 := by
  have h10 := (h.resolve_left (by lia)).2
  have h1 := nlc_nl h10
  rw [show p - 1 + 1 = p by lia] at h1
  rw [h1, nlc_none (l := l) (p - 1) (a := 0) (b := p - 1) (by lia) (by lia) fun j _ h2 => hn j h2, nlc_zero]
theorem Begin.some {p k : Nat} (h : Begin l p) (hp : p ≤ l.length) (hk : k < p - 1) (hn : ∀ j, k < j → j < p - 1 → l[j]? ≠ some 10) : nlc l p = nlc l (k + 1) + 1 := by
  have h10 := (h.resolve_left (by lia)).2
  have h1 := nlc_nl h10
  rw [show p - 1 + 1 = p by lia] at h1
  rw [h1, nlc_none (l := l) (p - 1 - (k + 1)) (a := k + 1) (b := p - 1) (by lia) (by lia) fun j h1 h2 => hn j h1 h2]
theorem Begin.eq {a b : Nat} (ha : Begin l a) (hb : Begin l b) (h : nlc l a = nlc l b) : a = b := by
  have key : ∀ {a b : Nat}, Begin l b → nlc l a = nlc l b → ¬ a < b := fun {a b} hb h hab => by
    have h10 := (hb.resolve_left (by lia)).2
    have h1 := nlc_nl h10
    rw [show b - 1 + 1 = b by lia] at h1
    have h2 := nlc_mono (l := l) (a := a) (b := b - 1) (by lia)
    lia
  have h1 := key hb h
  have h2 := key ha h.symm
  lia
theorem Rows.found {bs : List Nat} {s : LS} {k i a b : Nat} (H : Rows l bs s k) (ha : bs[i]? = Option.some a) (hb : bs[i + 1]? = Option.some b) (hj : Junk l a = false) (hall : ∀ (j c : Nat), i < j → j + 1 < bs.length → bs[j]? = Option.some c → Junk l c = true) : Cut l a s.last b ∧ s.last ≠ [] := by
  have hil : i + 1 < bs.length := (List.getElem?_eq_some_iff.mp hb).1
  rcases H.last with ⟨_, h⟩ | ⟨i', a', b', h1, h2, h3, h4, h5, h6⟩
  · rw [h i a hil ha] at hj; cases hj
  · have hil' : i' + 1 < bs.length := (List.getElem?_eq_some_iff.mp h2).1
    have : i = i' := by
      rcases Nat.lt_trichotomy i i' with q | q | q
      · rw [hall i' a' q hil' h1] at h5; cases h5
      · exact q
      · rw [h6 i a q hil ha] at hj; cases hj
    subst this
    rw [ha] at h1; rw [hb] at h2
    cases h1; cases h2
    exact ⟨h4, h3⟩
theorem Rows.nothing {bs : List Nat} {s : LS} {k : Nat} (H : Rows l bs s k) (hall : ∀ (j c : Nat), j + 1 < bs.length → bs[j]? = Option.some c → Junk l c = true) : s.last = [] := by
  rcases H.last with ⟨h, _⟩ | ⟨i', a', b', h1, h2, h3, h4, h5, h6⟩
  · exact h
  · have hil' : i' + 1 < bs.length := (List.getElem?_eq_some_iff.mp h2).1
    rw [hall i' a' hil' h1] at h5; cases h5
theorem Rows.mono {bs : List Nat} {s : LS} {k i j a b : Nat} (H : Rows l bs s k) (ha : bs[i]? = Option.some a) (hb : bs[j]? = Option.some b) (hij : i < j) : a < b := by
  obtain ⟨h1, e1⟩ := List.getElem?_eq_some_iff.mp ha
  obtain ⟨h2, e2⟩ := List.getElem?_eq_some_iff.mp hb
  rw [← e1, ← e2]
  exact List.pairwise_iff_getElem.mp H.inc i j h1 h2 hij
theorem Rows.begin {bs : List Nat} {s : LS} {k i a : Nat} (H : Rows l bs s k) (ha : bs[i]? = Option.some a) : Begin l a := H.nl a (List.mem_of_getElem? ha)
end
end Mine
end
section
open PySem PySem.W PyProof.Rows PySem.Calls
set_option Elab.async false
set_option linter.unusedVariables false
set_option maxRecDepth 100000
set_option maxHeartbeats 1000000
namespace Mine
local macro_rules | `(tactic| walk_at "mem") => `(tactic| first | with_reducible exact memH | (with_reducible refine memT ?_; walk_at "mem"))
local macro_rules | `(tactic| walk_at "put") => `(tactic| first | with_reducible exact Put.here | (apply Put.there; walk_at "put"))
local macro_rules | `(tactic| walk_at "upd") => `(tactic| first | with_reducible exact Upd.here | (apply Upd.there; walk_at "upd"))
local macro_rules | `(tactic| walk_at "nm") => `(tactic| (refine Ev.loc (by walk_at "mem") (by walk_at "mem") ?_))
local macro_rules | `(tactic| walk_at "sto") => `(tactic| (refine Sto.loc (by walk_at "mem") (by walk_at "put") (by walk_at "upd") ?_))
noncomputable def sTxt : Stmt := stAt 17 PySem.Challenge.pw_dm0164_12.main.body
noncomputable def sMks : Stmt := stAt 18 PySem.Challenge.pw_dm0164_12.main.body
noncomputable def sJnk : Stmt := stAt 19 PySem.Challenge.pw_dm0164_12.main.body
noncomputable def sLst : Stmt := stAt 20 PySem.Challenge.pw_dm0164_12.main.body
noncomputable def sLaw : Stmt := stAt 21 PySem.Challenge.pw_dm0164_12.main.body
noncomputable def sTwo : Stmt := stAt 6 sParser
noncomputable abbrev sV (s : List Nat) : V := .str (S s)
theorem sV_map (ds : List (List Nat)) : ds.map sV = (ds.map S).map V.str := by rw [List.map_map]; rfl
theorem lens (ds : List (List Nat)) : ((ds.map S).map (·.length)).sum = ds.flatten.length := by
  rw [List.map_map, List.length_flatten]
  congr 1
theorem flat_len (ds : List (List Nat)) (n : Nat) (h : ∀ d ∈ ds, d.length ≤ n) : ds.flatten.length ≤ n * ds.length := by
  induction ds with
  | nil => simp
  | cons d ds ih =>
    rw [List.flatten_cons, List.length_append, List.length_cons]
    have := ih fun d hd => h d (.tail _ hd)
    have := h d (.head _)
    rw [Nat.mul_add]; lia
noncomputable def pc12 : List (List Nat) := [[97], [40], [41], [10], [34], [39], [35], [92], [32], [91], [93], [123], [125], [34, 34, 34], [39, 39, 39], [92, 10], [58], [9], [35, 98, 10], [12]]
theorem pc12_ok : ∀ p ∈ pc12, p.length ≤ 3 ∧ ∀ c ∈ p, c < 128 := by decide
noncomputable def pcAt (x : Int) : List Nat := pc12[(x.fmod 20).toNat]?.getD []
theorem pcAt_is (x : Int) : (pc12.map sV)[(x.fmod 20).toNat]? = some (sV (pcAt x)) ∧ pcAt x ∈ pc12 := by
  obtain ⟨w, hw, ew⟩ := fmod_nat x 20 (by decide)
  have ew : x.fmod 20 = w := ew
  have h : w < pc12.length := hw
  unfold pcAt
  rw [ew, List.getElem?_map, show (w : Int).toNat = w from rfl, List.getElem?_eq_getElem h]
  exact ⟨rfl, List.getElem_mem h⟩
section
variable {C : Cx} {A : Around} {env : Env} {R : Led} {mg mb : Str → Option Value} {K : Frag} {Φ : V → Led → Prop} {Ψ : Fl → Led → Prop} {pm cd : Value} {x dx c f L : Addr} {pos : Pos} {l : List Nat}
theorem Ev.strS {x : Str} {a : List Nat} {k : Nat} (hx : x = S a) (h : Φ (.str (S a)) R) : Ev C A env (.Constant (.str x) k pos) R Φ := Ev.str (by rw [hx]; exact h)
theorem ClC.fnC {f : Addr} {fd : FuncData} {body : List Stmt} {n₁ : Str} {r : List Str} {vs : List V} {m : List (Str × V)} (G : GX C mg mb) (F : FnAt C f fd body [n₁]) (b : Bnd [n₁] vs r m) (hn : ([n₁] ++ r).Nodup) (hd : A.depth < recursionLimit)
    (hclo : fd.closure = []) (hcs : ∀ L, ((cellsFrom (L + 1) fd.scope.names []).map (·.1)).Nodup) (hl : ∀ x ∈ [n₁], fd.scope.names.lookup x = some .local)
    (h : ∀ L, Ex C (A.deeper (callEnvC fd L f)) (callEnvC fd L f) body ((L, .ns m) :: (cellR (cellsFrom (L + 1) fd.scope.names []) ++ R)) (Back Φ)) : ClC C A (.ref f) vs R Φ := fun z s u us H t d ds => by
  cases d
  exact fn_rawC G F b hn hd hclo hcs hl h H ds
theorem txt_call {xs : List Int} (G : GX C mg mb) (hh : A.handled = none) (F : FnAt C f (fdOf "_law_text" pm cd sTxt) (fnB sTxt) ["script"]) (hd : A.depth < recursionLimit) (hx : xs.length ≤ 63)
    (h : ∀ l : List Nat, l.getLast? = some 10 → l.length ≤ 190 → (∀ c ∈ l, c < 128) → Φ (.str (S l)) R) : Cl C A (.ref f) [.lst (xs.map V.int)] R Φ := by
  refine ClC.cl (ClC.fnC (r := []) G F (.cons .nil) (by decide) hd rfl (fun L => ?_) (by rw [fd_scope]; decide) fun L => ?_)
  · show (["pieces"] : List Str).Nodup
    decide
  show Ex C _ (callEnvC (fdOf "_law_text" pm cd sTxt) L f) (fnB sTxt) ((L, .ns [("script", .lst (xs.map V.int))]) :: (L + 1, .cell .any) :: R) _
  have hh' : (A.deeper (callEnvC (fdOf "_law_text" pm cd sTxt) L f)).handled = none := hh
  generalize A.deeper (callEnvC (fdOf "_law_text" pm cd sTxt) L f) = A' at hh' ⊢
  refine Ex.cons ?_
  refine Ex1.assign ?_ ?_
  rotate_left
  · kernel_rfl
  refine Ev.list ?_ ?_
  rotate_left
  · decide
  iterate 20 (refine EvL.cons ?_ ?_; rotate_left; (focus kernel_rfl); refine Ev.str ?_)
  refine EvL.nil ?_
  refine Sto.isV (v' := .lst (pc12.map sV)) ?_ ?_
  · kernel_rfl
  refine Sto.cell (c := L + 1) (v₀ := .any) (by walk_at "upd") ?_ ?_ ?_ ?_
  rotate_left
  · rfl
  · kernel_rfl
  · kernel_rfl
  show Ex C A' _ _ _ _
  refine Ex.cons ?_
  refine Ex1.ret ?_
  refine Ev.bin ?_
  refine Ev.meth (T := "str") ⟨PySem.F.plainAttrs_str, PySem.F.slot_str_join, PySem.F.type_str_join⟩ ?_
  refine Ev.str ?_
  refine ⟨TyIs.str, ?_⟩
  refine EvL.cons ?_ ?_
  rotate_left
  · kernel_rfl
  refine Ev.compF (cl := [("pieces", L + 1)]) xs V.int (fun d => (d.map pcAt).map sV) ?_ rfl ?_ ?_ ?_ ?_ ?_ ?_ ?_
  · walk_at "nm"
    exact ⟨Itb.lst hh', by lia, rfl⟩
  · intro c' it o D done a todo h1
    obtain ⟨w, hw, ew⟩ := fmod_nat a 20 (by decide)
    have hp := (pcAt_is a).1
    rw [show a.fmod 20 = w from ew] at hp
    refine TsL.nil ?_
    refine ite_t rfl ?_
    refine Ev.item ?_
    refine Ev.cellv (c := L + 1) (v := .lst (pc12.map sV)) ?_ ?_ rfl ?_ ?_ ?_
    · walk_at "mem"
    rotate_left
    · rfl
    · kernel_rfl
    · kernel_rfl
    refine Ev.bin ?_
    refine Ev.loc (L := c') (by walk_at "mem") (by walk_at "mem") ?_
    refine Ev.int ?_
    refine Op2.modI (by decide) ?_
    rw [show a.fmod 20 = w from ew]
    refine Itm.lst (w := sV (pcAt a)) .lst (by lia) hp ?_ (by lia)
    refine ⟨rfl, ?_⟩
    rw [List.map_append, List.map_append]; rfl
  · intro D
    have hp : ∀ p ∈ xs.map pcAt, p.length ≤ 3 ∧ ∀ c ∈ p, c < 128 := by
      intro p hp
      obtain ⟨x, _, rfl⟩ := List.mem_map.mp hp
      exact pc12_ok _ (pcAt_is x).2
    have hpn : (xs.map pcAt).length ≤ 63 := by rw [List.length_map]; lia
    generalize xs.map pcAt = ds at hp hpn
    have hfl := flat_len ds 3 fun d hd => (hp d hd).1
    have hch : ∀ c ∈ ds.flatten ++ [10], c < 128 := by
      intro c hc
      rcases List.mem_append.mp hc with hc | hc
      · obtain ⟨d, h1, h2⟩ := List.mem_flatten.mp hc
        exact (hp d h1).2 c h2
      · rw [List.mem_singleton.mp hc]; decide
    refine EvL.nil ?_
    refine Cl.join (xs := ds.map S) ?_ ?_ ?_
    · rw [← sV_map]; exact LstOf.at (by walk_at "mem")
    · rw [lens]; show _ + (ds.map S).length * 0 ≤ _; lia
    rw [join_S]
    refine Ev.strS (a := [10]) (by decide) ?_
    refine Op2.addT rfl rfl (by show _ + 1 ≤ _; lia) ?_
    exact ⟨R, .drop (.drop (.drop .rest)), h _ (by simp) (by rw [List.length_append]; show _ + 1 ≤ _; lia) hch⟩
  · kernel_rfl
  · decide
  · rfl
  · decide
  · decide
end
theorem first_nl {l : List Nat} (hlast : l.getLast? = some 10) {k : Nat} (hk : k < l.length) : ∃ m, k ≤ m ∧ m < l.length ∧ l[m]? = some 10 ∧ ∀ j, k ≤ j → j < m → l[j]? ≠ some 10 := by
  rw [List.getLast?_eq_getElem?] at hlast
  have : ∀ n k, l.length - 1 - k = n → k < l.length → ∃ m, k ≤ m ∧ m < l.length ∧ l[m]? = some 10 ∧ ∀ j, k ≤ j → j < m → l[j]? ≠ some 10 := fun n => by
    induction n with
    | zero =>
      intro k h1 h2
      have : k = l.length - 1 := by lia
      subst this
      exact ⟨_, Nat.le_refl _, h2, hlast, fun j h1 h2 => by lia⟩
    | succ n ih =>
      intro k h1 h2
      by_cases h : l[k]? = some 10
      · exact ⟨k, Nat.le_refl _, h2, h, fun j h1 h2 => by lia⟩
      · obtain ⟨m, a, b, c, d⟩ := ih (k + 1) (by lia) (by lia)
        exact ⟨m, by lia, b, c, fun j h1 h2 => by
          by_cases e : j = k
          · subst e; exact h
          · exact d j (by lia) h2⟩
  exact this _ k rfl hk
section
variable {C : Cx} {A : Around} {env : Env} {R : Led} {mg mb : Str → Option Value} {K : Frag} {Φ : V → Led → Prop} {Ψ : Fl → Led → Prop} {pm cd : Value} {x dx c f L : Addr} {pos : Pos} {l : List Nat} {k : Nat}
theorem junk_call (G : GX C mg mb) (hh : A.handled = none) (F : FnAt C f (fdOf "_law_junk" pm cd sJnk) (fnB sJnk) ["text", "k"]) (hd : A.depth < recursionLimit) (hlast : l.getLast? = some 10) (hl : l.length ≤ 190) (hk : k < l.length)
    (h : Φ (.bool (Junk l k)) R) : Cl C A (.ref f) [.str (S l), .int (k : Nat)] R Φ := by
  refine ClC.cl (F.call (r := ["line"]) G (.cons (.cons (.rest .nil))) (by decide) hd (by decide) fun L => ?_)
  obtain ⟨m, hkm, hml, hm, hno⟩ := first_nl hlast hk
  refine Ex.cons ?_
  refine Ex1.assign ?_ ?_
  rotate_left
  · kernel_rfl
  refine Ev.meth (T := "str") ⟨PySem.F.plainAttrs_str, PySem.F.slot_str_lstrip, PySem.F.type_str_lstrip⟩ ?_
  refine Ev.slice ?_
  walk_at "nm"
  refine Ev.loc (by walk_at "mem") (by walk_at "mem") ⟨_, rfl, ?_⟩
  refine Ev.meth (T := "str") ⟨PySem.F.plainAttrs_str, PySem.F.slot_str_index, PySem.F.type_str_index⟩ ?_
  walk_at "nm"
  refine ⟨TyIs.str, ?_⟩
  refine EvL.cons ?_
  refine Ev.strS (a := [10]) (by decide) ?_
  refine EvL.cons ?_
  walk_at "nm"
  refine EvL.nil ?_
  refine Cl.index3 hkm hml hm hno ⟨_, rfl, ?_⟩
  refine Sli.str (by rw [S_len]; lia) ?_
  rw [slice_S (by lia) (by lia), Int.toNat_natCast, show ((m : Int) - (k : Int)).toNat = m - k by lia]
  refine ⟨TyIs.str, ?_⟩
  refine EvL.cons ?_
  refine Ev.strS (a := [32, 9]) (by decide) ?_
  refine EvL.nil ?_
  have hlen : ((l.drop k).take (m - k)).length ≤ 190 := by rw [List.length_take, List.length_drop]; lia
  refine Cl.lstrip (by lia) ?_
  have hbl : (fun c => decide (c ∈ [32, 9])) = isBl := by funext c; unfold isBl; rw [Bool.eq_iff_iff]; simp
  rw [hbl]
  have hj := junk_line hkm hm hno (line := ((l.drop k).take (m - k)).dropWhile isBl) rfl
  have hll : (((l.drop k).take (m - k)).dropWhile isBl).length ≤ 190 := Nat.le_trans (List.dropWhile_sublist _).length_le hlen
  generalize ((l.drop k).take (m - k)).dropWhile isBl = line at hj hll
  rw [hj] at h
  walk_at "sto"
  refine Ex.cons ?_
  refine Ex1.ret ?_
  refine Ev.or2 ?_
  refine Ev.cmp ?_
  walk_at "nm"
  refine Ev.strS (a := []) (by decide) ?_
  refine Cmp.eqS ?_
  refine Tr.bool ?_
  rw [S_inj]
  match line, hll, h with
  | [], _, h => exact ite_t rfl ⟨R, .drop .rest, h⟩
  | c1 :: t, hll, h =>
    refine ite_f rfl ?_
    refine Ev.and2 ?_
    refine Ev.cmp ?_
    refine Ev.item ?_
    walk_at "nm"
    refine Ev.int ?_
    refine Itm.str (by lia) (by rw [S_len, List.length_cons]; lia) (by rw [S_len]; lia) ?_
    rw [item_S (c := c1) (by lia) rfl]
    refine Ev.strS (a := [35]) (by decide) ?_
    refine Cmp.eqCh ?_
    refine Tr.bool ?_
    refine ite_b (fun q => ?_) fun q => ?_
    · refine Ev.cmp ?_
      refine Ev.meth (T := "str") ⟨PySem.F.plainAttrs_str, PySem.F.slot_str_strip, PySem.F.type_str_strip⟩ ?_
      refine Ev.slice ?_
      walk_at "nm"
      refine Ev.int ⟨_, rfl, ?_⟩
      refine Ev.int ⟨_, rfl, ?_⟩
      refine Sli.str (by rw [S_len]; lia) ?_
      rw [slice_S (by lia) (by lia)]
      refine ⟨TyIs.str, ?_⟩
      refine EvL.nil ?_
      show Cl C _ _ [.str (S (t.take 1))] _ _
      refine Cl.strip1 (by rw [List.length_take]; lia) ?_
      refine Ev.strS (a := []) (by decide) ?_
      refine Cmp.neS ?_
      refine ⟨R, .drop .rest, ?_⟩
      have e : (S (if (t.take 1).all Unicode.isSpace then [] else t.take 1) != S []) = hashOk t := by
        unfold bne
        rw [S_inj]
        match t with
        | [] => rfl
        | d :: t =>
          show (!decide ((if [d].all Unicode.isSpace then [] else [d]) = [])) = !Unicode.isSpace d
          rw [List.all_cons, List.all_nil, Bool.and_true]
          cases Unicode.isSpace d <;> rfl
      have h' : Φ (.bool (c1 == 35 && hashOk t)) R := h
      rw [q, Bool.true_and] at h'
      show Φ (.bool _) R
      rw [e]; exact h'
    · refine ⟨R, .drop .rest, ?_⟩
      have h' : Φ (.bool (c1 == 35 && hashOk t)) R := h
      rw [q, Bool.false_and] at h'
      show Φ (.bool _) R
      rw [q]; exact h'
end
local macro_rules | `(tactic| walk_at "frn") => `(tactic| first | with_reducible exact FrzN.nil | (with_reducible apply FrzN.hit; walk_at "frn") | (apply FrzN.same; walk_at "frn"))
noncomputable def elB : Stmt → List Stmt
  | .If _ _ e _ => e
  | _ => []
noncomputable abbrev mkV (m : Nat × Nat) : V := .tup [.int m.1, .int m.2]
noncomputable abbrev mksV (ms : List (Nat × Nat)) : List V := ms.map mkV
noncomputable abbrev RM (L g : Addr) (l : List Nat) (ms : List (Nat × Nat)) (k : Nat) (ve vq : V) (R : Led) : Led :=
  (g, .list (mksV ms)) :: (L, .ns [("text", .str (S l)), ("e", ve), ("quote", vq), ("k", .int k), ("marks", .ref g)]) :: R
noncomputable def sMW : List Stmt := whB (stAt 1 (fnB sMks))
noncomputable def sMI : Stmt := stAt 1 sMW
noncomputable def sMQ : List Stmt := ifB (stAt 0 (elB (stAt 0 (elB sMI))))
noncomputable def ScanW (l : List Nat) (q w x y : Nat) : Prop := (w = 3 ∧ Scan3 l q x y) ∨ (w = 1 ∧ Scan1 l q x y)
theorem take_hit {l : List Nat} {q x : Nat} : (l.drop x).take 3 = [q, q, q] ↔ Hit3 l q x := by
  unfold Hit3
  constructor
  · intro e
    have g0 := congrArg (·[0]?) e
    have g1 := congrArg (·[1]?) e
    have g2 := congrArg (·[2]?) e
    simp [List.getElem?_take, List.getElem?_drop] at g0 g1 g2
    exact ⟨g0, g1, g2⟩
  · rintro ⟨h0, h1, h2⟩
    rw [drop_at h0, drop_at h1, drop_at (x := x + 1 + 1) h2]; rfl
theorem take_one {l : List Nat} {q x : Nat} : (l.drop x).take 1 = [q] ↔ l[x]? = some q := by
  constructor
  · intro e
    have g0 := congrArg (·[0]?) e
    simpa [List.getElem?_take, List.getElem?_drop] using g0
  · intro h
    rw [drop_at h]; rfl
section
variable {C : Cx} {A : Around} {env : Env} {R : Led} {mg mb : Str → Option Value} {K : Frag} {Φ : V → Led → Prop} {Ψ : Fl → Led → Prop} {pm cd : Value} {x dx c f L g : Addr} {pos : Pos} {l : List Nat} {k q w x0 : Nat} {ms : List (Nat × Nat)} {ve vq : V}
theorem body_loop (G : GX C mg mb) (hlen : mg "len" = none) (hlast : l.getLast? = some 10) (hl : l.length ≤ 190) (hq : q = 34 ∨ q = 39) (hw : w = 1 ∨ w = 3) (hx0 : x0 ≤ l.length)
    (h : ∀ x, x ≤ l.length → ScanW l q w x0 x → (x = l.length ∨ (l.drop x).take w = List.replicate w q ∨ (w = 1 ∧ l[x]? = some 10)) → Ψ .next (RM L g l ms k (.int x) (sV (List.replicate w q)) R)) :
    Ex1 C A (fenv (fdOf "_law_marks" pm cd sMks) f L) (stAt 3 sMQ) (RM L g l ms k (.int x0) (sV (List.replicate w q)) R) Ψ := by
  have hrl : (S (List.replicate w q)).length = w := by rw [S_len, List.length_replicate]
  refine Ex1.whil (fun n R' => ∃ x, n = l.length - x ∧ x ≤ l.length ∧ (∀ y, ScanW l q w x y → ScanW l q w x0 y) ∧ R' = RM L g l ms k (.int x) (sV (List.replicate w q)) R) (n₀ := l.length - x0) ⟨x0, rfl, hx0, fun y h => h, rfl⟩ ?_
  rintro n R' ⟨x, rfl, hx, hs, rfl⟩
  refine Ts.and ?_
  refine Ts.cmp ?_
  walk_at "nm"
  refine Ev.lenT G hlen hl (by walk_at "mem") (by walk_at "mem") ?_
  refine Cmp.ltI ?_
  refine ite_b (fun h1 => ?_) fun h1 => ?_
  rotate_left
  · /- the text's end -/
    have h1 := of_decide_eq_false h1
    have hxe : x = l.length := by lia
    subst hxe
    refine ite_f rfl (Ex.nil ?_)
    refine h _ (Nat.le_refl _) (hs _ ?_) (.inl rfl)
    rcases hw with rfl | rfl
    · exact .inr ⟨rfl, .stop⟩
    · exact .inl ⟨rfl, .stop⟩
  have h1 := of_decide_eq_true h1
  have hxl : x < l.length := by lia
  obtain ⟨ch, hc⟩ : ∃ ch, l[x]? = some ch := ⟨_, List.getElem?_eq_getElem hxl⟩
  refine Ts.and ?_
  refine Ts.cmp ?_
  refine Ev.slice ?_
  walk_at "nm"
  refine Ev.loc (by walk_at "mem") (by walk_at "mem") ⟨_, rfl, ?_⟩
  refine Ev.bin ?_
  walk_at "nm"
  refine Ev.callN ?_
  refine Ev.blt G hlen boot_len (fun _ => .bi _) ?_
  refine EvL.cons ?_
  walk_at "nm"
  refine EvL.nil ⟨Kpr.bi, ?_⟩
  refine Cl.lenS (by rw [hrl]; lia) ?_
  rw [hrl]
  refine Op2.addI ⟨_, rfl, ?_⟩
  refine Sli.str (by rw [S_len]; lia) ?_
  rw [slice_S (by lia) (by lia), Int.toNat_natCast, show ((x : Int) + (w : Int) - (x : Int)).toNat = w by lia]
  walk_at "nm"
  refine Cmp.neTx ?_
  refine ite_b (fun h2 => ?_) fun h2 => ?_
  rotate_left
  · /- the quotes -/
    have h2 : (l.drop x).take w = List.replicate w q := by simpa using h2
    refine ite_f rfl (Ex.nil ?_)
    refine h _ hx (hs _ ?_) (.inr (.inl h2))
    rcases hw with rfl | rfl
    · exact .inr ⟨rfl, .hit (take_one.mp h2)⟩
    · exact .inl ⟨rfl, .hit (take_hit.mp h2)⟩
  have h2 : ¬ (l.drop x).take w = List.replicate w q := by simpa using h2
  refine Ts.and ?_
  refine Ts.or ?_
  refine Ts.cmp ?_
  refine Ev.chrN hl hc (by walk_at "mem") (by walk_at "mem") (by walk_at "mem") ?_
  refine Ev.strS (a := [10]) (by decide) ?_
  refine Cmp.neCh ?_
  have body : (ch ≠ 10 ∨ w = 3) → Ex C A (fenv (fdOf "_law_marks" pm cd sMks) f L) (whB (stAt 3 sMQ)) (RM L g l ms k (.int x) (sV (List.replicate w q)) R)
      (Turn (fun R₂ => ∃ m, m < l.length - x ∧ ∃ x', m = l.length - x' ∧ x' ≤ l.length ∧ (∀ y, ScanW l q w x' y → ScanW l q w x0 y) ∧ R₂ = RM L g l ms k (.int x') (sV (List.replicate w q)) R) Ψ) := fun h3 => by
    refine Ex.cons ?_
    refine Ex1.assign ?_ ?_
    rotate_left
    · kernel_rfl
    refine Ev.ite ?_
    refine Ts.cmp ?_
    refine Ev.chrN hl hc (by walk_at "mem") (by walk_at "mem") (by walk_at "mem") ?_
    refine Ev.strS (a := [92]) (by decide) ?_
    refine Cmp.eqCh ?_
    refine ite_b (fun h4 => ?_) fun h4 => ?_
    · have h4 : ch = 92 := eq_of_beq h4
      subst h4
      have hx2 : x + 2 ≤ l.length := by
        refine Nat.lt_of_le_of_ne (Nat.succ_le_of_lt hxl) fun e => ?_
        rw [List.getLast?_eq_getElem?, ← e, Nat.add_sub_cancel, hc] at hlast; cases hlast
      refine Ev.bin ?_
      walk_at "nm"
      refine Ev.int ?_
      refine Op2.addI ?_
      walk_at "sto"
      refine Ex.nil ?_
      refine ⟨l.length - (x + 2), by lia, x + 2, rfl, hx2, fun y hy => hs y ?_, rfl⟩
      rcases hy with ⟨a, b⟩ | ⟨a, b⟩
      · exact .inl ⟨a, .bs hc hx2 b⟩
      · exact .inr ⟨a, .bs hc hx2 b⟩
    · have h4 : ch ≠ 92 := fun e => by subst e; exact absurd h4 (by decide)
      refine Ev.bin ?_
      walk_at "nm"
      refine Ev.int ?_
      refine Op2.addI ?_
      walk_at "sto"
      refine Ex.nil ?_
      refine ⟨l.length - (x + 1), by lia, x + 1, rfl, hxl, fun y hy => hs y ?_, rfl⟩
      rcases hy with ⟨a, b⟩ | ⟨a, b⟩
      · subst a
        exact .inl ⟨rfl, .one hc h4 (fun e => h2 (take_hit.mpr e)) b⟩
      · subst a
        refine .inr ⟨rfl, .one hc h4 (fun e => h2 (take_one.mpr (by rw [hc, e]))) ?_ b⟩
        exact h3.resolve_right (by decide)
  refine ite_b (fun h3 => ?_) fun h3 => ?_
  · refine ite_t rfl ?_
    refine Ts.and_nil ?_
    refine ite_t rfl ?_
    exact body (.inl (by simpa using h3))
  refine Ts.or ?_
  refine Ts.cmp ?_
  refine Ev.callN ?_
  refine Ev.blt G hlen boot_len (fun _ => .bi _) ?_
  refine EvL.cons ?_
  walk_at "nm"
  refine EvL.nil ⟨Kpr.bi, ?_⟩
  refine Cl.lenS (by rw [hrl]; lia) ?_
  rw [hrl]
  refine Ev.int ?_
  refine Cmp.eqI ?_
  have h3 : ch = 10 := by simpa using h3
  rcases hw with rfl | rfl
  · refine ite_f rfl ?_
    refine Ts.or_nil ?_
    refine ite_f rfl ?_
    refine ite_f rfl (Ex.nil ?_)
    refine h _ hx (hs _ (.inr ⟨rfl, .nl (by rw [hc, h3])⟩)) (.inr (.inr ⟨rfl, by rw [hc, h3]⟩))
  · refine ite_t rfl ?_
    refine ite_t rfl ?_
    refine Ts.and_nil ?_
    refine ite_t rfl ?_
    exact body (.inr rfl)
end
section
variable {C : Cx} {A : Around} {env : Env} {R : Led} {mg mb : Str → Option Value} {K : Frag} {Φ : V → Led → Prop} {Ψ : Fl → Led → Prop} {pm cd : Value} {x dx c f L g : Addr} {pos : Pos} {l : List Nat} {k q w x0 ch : Nat} {ms : List (Nat × Nat)} {ve vq : V}
theorem mark_str (G : GX C mg mb) (hlen : mg "len" = none) (hlast : l.getLast? = some 10) (hl : l.length ≤ 190) (hk : k < l.length) (hc : l[k]? = some q) (hq : q = 34 ∨ q = 39)
    (h : ∀ e vq', Mk l k e → Ψ .next (RM L g l ms k (.int (e : Nat)) vq' R)) : Ex C A (fenv (fdOf "_law_marks" pm cd sMks) f L) sMQ (RM L g l ms k ve vq R) Ψ := by
  have fin : ∀ {w e0 : Nat}, (w = 1 ∧ ¬ Hit3 l q k ∨ w = 3 ∧ Hit3 l q k) → Ex C A (fenv (fdOf "_law_marks" pm cd sMks) f L) (sMQ.drop 2) (RM L g l ms k ve (sV (List.replicate w q)) R) Ψ := fun {w e0} hw => by
    have hrl : (S (List.replicate w q)).length = w := by rw [S_len, List.length_replicate]
    have hw' : w = 1 ∨ w = 3 := hw.imp (·.1) (·.1)
    have hkw : k + w ≤ l.length := by
      rcases hw with ⟨rfl, _⟩ | ⟨rfl, h3⟩
      · exact hk
      · exact some_lt h3.2.2
    refine Ex.cons ?_
    refine Ex1.assign ?_ ?_
    rotate_left
    · kernel_rfl
    refine Ev.bin ?_
    walk_at "nm"
    refine Ev.callN ?_
    refine Ev.blt G hlen boot_len (fun _ => .bi _) ?_
    refine EvL.cons ?_
    walk_at "nm"
    refine EvL.nil ⟨Kpr.bi, ?_⟩
    refine Cl.lenS (by rw [hrl]; lia) ?_
    rw [hrl]
    refine Op2.addI ?_
    walk_at "sto"
    refine Ex.cons ?_
    refine body_loop (x0 := k + w) (w := w) (q := q) G hlen hlast hl hq hw' hkw ?_
    intro x hx hs he
    refine Ex.cons ?_
    refine Ex1.ite ?_
    refine Ts.cmp ?_
    refine Ev.slice ?_
    walk_at "nm"
    refine Ev.loc (by walk_at "mem") (by walk_at "mem") ⟨_, rfl, ?_⟩
    refine Ev.bin ?_
    walk_at "nm"
    refine Ev.callN ?_
    refine Ev.blt G hlen boot_len (fun _ => .bi _) ?_
    refine EvL.cons ?_
    walk_at "nm"
    refine EvL.nil ⟨Kpr.bi, ?_⟩
    refine Cl.lenS (by rw [hrl]; lia) ?_
    rw [hrl]
    refine Op2.addI ⟨_, rfl, ?_⟩
    refine Sli.str (by rw [S_len]; lia) ?_
    rw [slice_S (by lia) (by lia), Int.toNat_natCast, show ((x : Int) + (w : Int) - (x : Int)).toNat = w by lia]
    walk_at "nm"
    refine Cmp.eqTx ?_
    refine ite_b (fun h2 => ?_) fun h2 => ?_
    · have h2 : (l.drop x).take w = List.replicate w q := by simpa using h2
      refine Ex.cons ?_
      refine Ex1.assign ?_ ?_
      rotate_left
      · kernel_rfl
      refine Ev.bin ?_
      walk_at "nm"
      refine Ev.callN ?_
      refine Ev.blt G hlen boot_len (fun _ => .bi _) ?_
      refine EvL.cons ?_
      walk_at "nm"
      refine EvL.nil ⟨Kpr.bi, ?_⟩
      refine Cl.lenS (by rw [hrl]; lia) ?_
      rw [hrl]
      refine Op2.addI ?_
      walk_at "sto"
      refine Ex.nil (Ex.nil ?_)
      refine h (x + w) _ ?_
      rcases hw with ⟨rfl, hn⟩ | ⟨rfl, h3⟩
      · rcases hs with ⟨hs, _⟩ | ⟨_, hs⟩
        · cases hs
        · exact .s1h hq hc hn hs (take_one.mp h2)
      · rcases hs with ⟨_, hs⟩ | ⟨hs, _⟩
        · exact .s3h hq h3 hs (take_hit.mp h2)
        · cases hs
    · have h2 : ¬ (l.drop x).take w = List.replicate w q := by simpa using h2
      refine Ex.nil (Ex.nil ?_)
      refine h x _ ?_
      rcases hw with ⟨rfl, hn⟩ | ⟨rfl, h3⟩
      · rcases hs with ⟨hs, _⟩ | ⟨_, hs⟩
        · cases hs
        · refine .s1e hq hc hn hs ?_
          rcases he with he | he | ⟨_, he⟩
          · exact .inl he
          · exact absurd he h2
          · exact .inr he
      · rcases hs with ⟨_, hs⟩ | ⟨hs, _⟩
        · have hx : x = l.length := by
            rcases he with he | he | ⟨he, _⟩
            · exact he
            · exact absurd he h2
            · cases he
          subst hx
          exact .s3e hq h3 hs
        · cases hs
  refine Ex.cons ?_
  refine Ex1.assign ?_ ?_
  rotate_left
  · kernel_rfl
  refine Ev.chrN hl hc (by walk_at "mem") (by walk_at "mem") (by walk_at "mem") ?_
  walk_at "sto"
  refine Ex.cons ?_
  refine Ex1.ite ?_
  refine Ts.cmp ?_
  refine Ev.slice ?_
  walk_at "nm"
  refine Ev.loc (by walk_at "mem") (by walk_at "mem") ⟨_, rfl, ?_⟩
  refine Ev.bin ?_
  walk_at "nm"
  refine Ev.int ?_
  refine Op2.addI ⟨_, rfl, ?_⟩
  refine Sli.str (by rw [S_len]; lia) ?_
  rw [slice_S (by lia) (by lia), Int.toNat_natCast, show ((k : Int) + 3 - (k : Int)).toNat = 3 by lia]
  refine Ev.bin ?_
  walk_at "nm"
  refine Ev.int ?_
  refine Op2.mulS (by decide) (by decide) (by rw [S_len]; show 1 ≤ 1000; decide) ?_
  rw [mul_S3]
  refine Cmp.eqTx ?_
  refine ite_b (fun h2 => ?_) fun h2 => ?_
  · have h2 : Hit3 l q k := take_hit.mp (by simpa using h2)
    refine Ex.cons ?_
    refine Ex1.assign ?_ ?_
    rotate_left
    · kernel_rfl
    refine Ev.bin ?_
    walk_at "nm"
    refine Ev.int ?_
    refine Op2.mulS (by decide) (by decide) (by rw [S_len]; show 1 ≤ 1000; decide) ?_
    rw [mul_S3]
    walk_at "sto"
    refine Ex.nil ?_
    exact fin (w := 3) (e0 := 0) (.inr ⟨rfl, h2⟩)
  · have h2 : ¬ Hit3 l q k := fun e => by rw [take_hit.mpr e] at h2; simp at h2
    refine Ex.nil ?_
    exact fin (w := 1) (e0 := 0) (.inl ⟨rfl, h2⟩)
theorem mark_if (G : GX C mg mb) (hlen : mg "len" = none) (hlast : l.getLast? = some 10) (hl : l.length ≤ 190) (hk : k < l.length)
    (h : ∀ e vq', Mk l k e → Ψ .next (RM L g l ms k (.int (e : Nat)) vq' R)) : Ex1 C A (fenv (fdOf "_law_marks" pm cd sMks) f L) sMI (RM L g l ms k (.int ((k + 1 : Nat) : Int)) vq R) Ψ := by
  obtain ⟨c, hc⟩ : ∃ c, l[k]? = some c := ⟨_, List.getElem?_eq_getElem hk⟩
  refine Ex1.ite ?_
  refine Ts.cmp ?_
  refine Ev.chrN hl hc (by walk_at "mem") (by walk_at "mem") (by walk_at "mem") ?_
  refine Ev.strS (a := [35]) (by decide) ?_
  refine Cmp.eqCh ?_
  refine ite_b (fun h1 => ?_) fun h1 => ?_
  · have h1 : c = 35 := eq_of_beq h1
    subst h1
    obtain ⟨m, hkm, hml, hm, hno⟩ := first_nl hlast hk
    have hkm' : k < m := Nat.lt_of_le_of_ne hkm fun e => by subst e; rw [hc] at hm; cases hm
    refine Ex.cons ?_
    refine Ex1.assign ?_ ?_
    rotate_left
    · kernel_rfl
    refine Ev.bin ?_
    refine Ev.meth (T := "str") ⟨PySem.F.plainAttrs_str, PySem.F.slot_str_index, PySem.F.type_str_index⟩ ?_
    walk_at "nm"
    refine ⟨TyIs.str, ?_⟩
    refine EvL.cons ?_
    refine Ev.strS (a := [10]) (by decide) ?_
    refine EvL.cons ?_
    walk_at "nm"
    refine EvL.nil ?_
    refine Cl.index3 hkm hml hm hno ?_
    refine Ev.int ?_
    refine Op2.addI ?_
    walk_at "sto"
    refine Ex.nil ?_
    exact h (m + 1) _ (.com hc hkm' hm fun j h1 h2 => hno j (by lia) h2)
  have h1 : c ≠ 35 := fun e => by subst e; exact absurd h1 (by decide)
  refine Ex.cons ?_
  refine Ex1.ite ?_
  refine Ts.cmp ?_
  refine Ev.chrN hl hc (by walk_at "mem") (by walk_at "mem") (by walk_at "mem") ?_
  refine Ev.strS (a := [92]) (by decide) ?_
  refine Cmp.eqCh ?_
  refine ite_b (fun h2 => ?_) fun h2 => ?_
  · have h2 : c = 92 := eq_of_beq h2
    subst h2
    have hx2 : k + 2 ≤ l.length := by
      refine Nat.lt_of_le_of_ne (Nat.succ_le_of_lt hk) fun e => ?_
      rw [List.getLast?_eq_getElem?, ← e, Nat.add_sub_cancel, hc] at hlast; cases hlast
    refine Ex.cons ?_
    refine Ex1.assign ?_ ?_
    rotate_left
    · kernel_rfl
    refine Ev.bin ?_
    walk_at "nm"
    refine Ev.int ?_
    refine Op2.addI ?_
    walk_at "sto"
    refine Ex.nil (Ex.nil ?_)
    exact h (k + 2) _ (.bs hc hx2)
  have h2 : c ≠ 92 := fun e => by subst e; exact absurd h2 (by decide)
  refine Ex.cons ?_
  refine Ex1.ite ?_
  refine Ts.or ?_
  refine Ts.cmp ?_
  refine Ev.chrN hl hc (by walk_at "mem") (by walk_at "mem") (by walk_at "mem") ?_
  refine Ev.strS (a := [34]) (by decide) ?_
  refine Cmp.eqCh ?_
  refine ite_b (fun h3 => ?_) fun h3 => ?_
  · have h3 : c = 34 := eq_of_beq h3
    subst h3
    refine ite_t rfl ?_
    refine (mark_str (q := 34) G hlen hlast hl hk hc (.inl rfl) ?_ : Ex C A _ sMQ _ _)
    intro e vq' hm
    exact Ex.nil (Ex.nil (h e vq' hm))
  refine Ts.or ?_
  refine Ts.cmp ?_
  refine Ev.chrN hl hc (by walk_at "mem") (by walk_at "mem") (by walk_at "mem") ?_
  refine Ev.strS (a := [39]) (by decide) ?_
  refine Cmp.eqCh ?_
  have h3 : c ≠ 34 := fun e => by subst e; exact absurd h3 (by decide)
  refine ite_b (fun h4 => ?_) fun h4 => ?_
  · have h4 : c = 39 := eq_of_beq h4
    subst h4
    refine ite_t rfl ?_
    refine (mark_str (q := 39) G hlen hlast hl hk hc (.inr rfl) ?_ : Ex C A _ sMQ _ _)
    intro e vq' hm
    exact Ex.nil (Ex.nil (h e vq' hm))
  · have h4 : c ≠ 39 := fun e => by subst e; exact absurd h4 (by decide)
    refine Ts.or_nil ?_
    refine ite_f rfl (Ex.nil (Ex.nil (Ex.nil ?_)))
    exact h (k + 1) _ (.one hc h1 h2 h3 h4)
theorem marks_call (G : GX C mg mb) (hlen : mg "len" = none) (hh : A.handled = none) (F : FnAt C f (fdOf "_law_marks" pm cd sMks) (fnB sMks) ["text"]) (hd : A.depth < recursionLimit) (hlast : l.getLast? = some 10) (hl : l.length ≤ 190)
    (h : ∀ ms, Cut l 0 ms l.length → Φ (.lst (mksV ms)) R) : Cl C A (.ref f) [.str (S l)] R Φ := by
  refine ClC.cl (F.call (r := ["e", "quote", "k", "marks"]) G (.cons (.rest (.rest (.rest (.rest .nil))))) (by decide) hd (by decide) fun L => ?_)
  have hh' : (A.deeper (fenv (fdOf "_law_marks" pm cd sMks) f L)).handled = none := hh
  generalize A.deeper (fenv (fdOf "_law_marks" pm cd sMks) f L) = A' at hh' ⊢
  refine Ex.cons ?_
  refine Ex1.assignS hh' ?_
  refine Ev.tuple ?_
  refine EvL.cons ?_
  refine Ev.listM ?_
  refine EvL.nil ?_
  intro g
  refine EvL.cons ?_
  refine Ev.int ?_
  refine EvL.nil ⟨_, rfl, rfl, ?_⟩
  walk_at "sto"
  walk_at "sto"
  refine Ex.cons ?_
  refine Ex1.whil (fun n R' => ∃ ms k ve vq, n = l.length - k ∧ k ≤ l.length ∧ Cut l 0 ms k ∧ R' = RM L g l ms k ve vq R) (n₀ := l.length) ⟨[], 0, .any, .any, rfl, Nat.zero_le _, .nil, rfl⟩ ?_
  rintro n R' ⟨ms, k, ve, vq, rfl, hk, hcut, rfl⟩
  refine Ts.cmp ?_
  walk_at "nm"
  refine Ev.lenT G hlen hl (by walk_at "mem") (by walk_at "mem") ?_
  refine Cmp.ltI ?_
  refine ite_b (fun h1 => ?_) fun h1 => ?_
  · have h1 := of_decide_eq_true h1
    have hkl : k < l.length := by lia
    refine Ex.cons ?_
    refine Ex1.assign ?_ ?_
    rotate_left
    · kernel_rfl
    refine Ev.bin ?_
    walk_at "nm"
    refine Ev.int ?_
    refine Op2.addI ?_
    walk_at "sto"
    refine Ex.cons ?_
    refine mark_if G hlen hlast hl hkl ?_
    intro e vq' hm
    have hle := hm.leN
    have hlt := hm.lt
    refine Ex.cons ?_
    refine Ex1.expr ?_
    refine Ev.meth (T := "list") ⟨PySem.F.plainAttrs_list, PySem.F.slot_list_append, PySem.F.type_list_append⟩ ?_
    refine Ev.loc (by walk_at "mem") (by walk_at "mem") ⟨TyIs.listM (by walk_at "mem"), ?_⟩
    refine EvL.cons ?_
    refine Ev.tuple ?_
    refine EvL.cons ?_
    walk_at "nm"
    refine EvL.cons ?_
    walk_at "nm"
    refine EvL.nil ?_
    refine EvL.nil ?_
    have hml := hcut.len
    refine Cl.append (by walk_at "upd") (by rw [List.length_map]; lia) ⟨rfl, ?_⟩
    refine Ex.cons ?_
    refine Ex1.assign ?_ ?_
    rotate_left
    · kernel_rfl
    walk_at "nm"
    walk_at "sto"
    refine Ex.nil ?_
    refine ⟨l.length - e, by lia, ms ++ [(k, e)], e, .int (e : Nat), vq', rfl, hle, hcut.app (.one hm), ?_⟩
    unfold RM mksV
    rw [List.map_append]; rfl
  · have h1 := of_decide_eq_false h1
    have hke : k = l.length := by lia
    subst hke
    refine Ex.nil ?_
    show Ex C A' _ _ _ _
    refine Ex.frz (a := g) (vs := mksV ms) (.gone (.ns (by walk_at "frn") .rest)) ?_
    refine Ex.cons ?_
    refine Ex1.ret ?_
    walk_at "nm"
    exact ⟨R, .drop .rest, h ms hcut⟩
end
theorem op_mem (c : Nat) : decide (c ∈ [40, 91, 123]) = isOp c := by unfold isOp; rw [Bool.eq_iff_iff]; simp [or_assoc]
theorem cl_mem (c : Nat) : decide (c ∈ [41, 93, 125]) = isCl c := by unfold isCl; rw [Bool.eq_iff_iff]; simp [or_assoc]
theorem end_mem (c : Nat) : decide (c ∈ [10, 35]) = isEnd c := by unfold isEnd; rw [Bool.eq_iff_iff]; simp
theorem max_nat (d : Nat) : max ((d : Int) - 1) 0 = ((d - 1 : Nat) : Int) := by lia
noncomputable def forB : Stmt → List Stmt
  | .For _ _ b _ _ => b
  | _ => []
noncomputable def sLF : List Stmt := forB (stAt 1 (fnB sLst))
noncomputable abbrev RLa (L gr : Addr) (l : List Nat) (s : LS) (vk ve : V) (R : Led) : Led :=
  (gr, .list (mksV s.row)) :: (L, .ns [("text", .str (S l)), ("k", vk), ("e", ve), ("row", .ref gr), ("depth", .int s.d), ("last", .lst (mksV s.last))]) :: R
section
variable {C : Cx} {A : Around} {env : Env} {R : Led} {mg mb : Str → Option Value} {K : Frag} {Φ : V → Led → Prop} {Ψ : Fl → Led → Prop} {pm cd : Value} {x dx c f fM fJ L g it : Addr} {pos : Pos} {l : List Nat} {k e : Nat} {ms : List (Nat × Nat)} {vk ve : V} {o : Obj} {s : LS}
theorem last_turn (G : GX C mg mb) (hlen : mg "len" = none) (hmax : mg "max" = none) (nJ : mg "_law_junk" = some (.ref fJ)) (hh : A.handled = none) (hd : A.depth < recursionLimit)
    (FJ : ∃ pm cd, FnAt C fJ (fdOf "_law_junk" pm cd sJnk) (fnB sJnk) ["text", "k"]) (hlast : l.getLast? = some 10) (hl : l.length ≤ 190) (hk : k < l.length) (hrow : ∀ m ∈ s.row, m.1 < l.length) (hrl : s.row.length ≤ 1000)
    (h : ∀ gr' R₂, Wk R₂ ((it, .obj o) :: RLa L gr' l (ls1 l s (k, e)) (.int (k : Nat)) (.int (e : Nat)) R) → Ψ .next R₂) :
    Ex C A (fenv (fdOf "_law_last" pm cd sLst) f L) sLF ((it, .obj o) :: RLa L g l s (.int (k : Nat)) (.int (e : Nat)) R) Ψ := by
  obtain ⟨pmJ, cdJ, FJ⟩ := FJ
  obtain ⟨c, hc⟩ : ∃ c, l[k]? = some c := ⟨_, List.getElem?_eq_getElem hk⟩
  have hch := chr_at hc
  refine Ex.cons ?_
  refine Ex1.appPair (by walk_at "mem") (by walk_at "mem") (by walk_at "mem") ?_
  walk_at "nm"
  walk_at "nm"
  refine ⟨_, _, by walk_at "upd", by rw [List.length_map]; lia, ?_⟩
  have hrow' : ∀ m ∈ s.row ++ [(k, e)], m.1 < l.length := fun m hm => by
    rcases List.mem_append.mp hm with hm | hm
    · exact hrow m hm
    · rw [List.mem_singleton.mp hm]; exact hk
  have emk : mksV s.row ++ [V.tup [.int k, .int e]] = mksV (s.row ++ [(k, e)]) := by unfold mksV; rw [List.map_append]; rfl
  rw [emk]
  have fin : ∀ d' : Nat, d' = lvlM c s.d → Ex C A (fenv (fdOf "_law_last" pm cd sLst) f L) (sLF.drop 2)
      ((it, .obj o) :: (g, .list (mksV (s.row ++ [(k, e)]))) :: (L, .ns [("text", .str (S l)), ("k", .int k), ("e", .int e), ("row", .ref g), ("depth", .int d'), ("last", .lst (mksV s.last))]) :: R) Ψ := fun d' hd' => by
    have tail : closes l s.d (k, e) = true → Ex C A (fenv (fdOf "_law_last" pm cd sLst) f L) (ifB (stAt 2 sLF))
        ((it, .obj o) :: (g, .list (mksV (s.row ++ [(k, e)]))) :: (L, .ns [("text", .str (S l)), ("k", .int k), ("e", .int e), ("row", .ref g), ("depth", .int d'), ("last", .lst (mksV s.last))]) :: R) (Seq C A (fenv (fdOf "_law_last" pm cd sLst) f L) [] Ψ) := fun hcl => by
      obtain ⟨a, ta, hrn⟩ : ∃ a ta, s.row ++ [(k, e)] = a :: ta := by
        cases hr : s.row with
        | nil => exact ⟨_, _, rfl⟩
        | cons a t => exact ⟨_, _, rfl⟩
      have hls : ls1 l s (k, e) = ⟨if Junk l a.1 then s.last else s.row ++ [(k, e)], [], d'⟩ := by
        unfold ls1
        rw [if_pos hcl, hrn, hd', ← hch]; rfl
      have hal : a.1 < l.length := hrow' a (by rw [hrn]; exact .head _)
      rw [hls] at h
      rw [hrn] at h ⊢
      refine Ex.cons ?_
      refine Ex1.ite ?_
      refine Ts.not ?_
      refine Ts.val ?_
      refine Ev.callN ?_
      refine Ev.glob G nJ (fun _ => .ref _) ?_
      refine EvL.cons ?_
      walk_at "nm"
      refine EvL.cons ?_
      refine Ev.item ?_
      refine Ev.item ?_
      walk_at "nm"
      refine Ev.int ?_
      refine Itm.lst (w := mkV a) (LstOf.at (by walk_at "mem")) (by decide) rfl ?_ (by decide)
      refine Ev.int ?_
      refine Itm.tup (w := .int a.1) (j := 0) rfl rfl ?_ (by decide) (by decide)
      refine EvL.nil ⟨FJ.kpr, ?_⟩
      refine junk_call G hh FJ hd hlast hl hal ?_
      refine Tr.bool ?_
      cases hj : Junk l a.1 with
      | true =>
        refine ite_f rfl (Ex.nil ?_)
        show Ex C A _ _ _ _
        refine Ex.cons ?_
        refine Ex1.assign ?_ ?_
        rotate_left
        · kernel_rfl
        refine Ev.listM ?_
        refine EvL.nil ?_
        intro g'
        walk_at "sto"
        refine Ex.nil (Ex.nil ?_)
        refine h g' _ ?_
        rw [hj, if_pos rfl]
        exact .perm (.swap _ _ _) (.same (.same (.drop .rest)))
      | false =>
        refine ite_t rfl ?_
        refine Ex.cons ?_
        refine Ex1.assign ?_ ?_
        rotate_left
        · kernel_rfl
        walk_at "nm"
        walk_at "sto"
        refine Ex.nil ?_
        show Ex C A _ _ _ _
        refine Ex.cons ?_
        refine Ex1.assign ?_ ?_
        rotate_left
        · kernel_rfl
        refine Ev.listM ?_
        refine EvL.nil ?_
        intro g'
        walk_at "sto"
        show Ex C A _ _ _ _
        refine Ex.frz (a := g) (vs := mksV (a :: ta)) (.same (.same (.gone (.ns (by walk_at "frn") .rest)))) ?_
        refine Ex.nil (Ex.nil ?_)
        refine h g' _ ?_
        rw [hj, if_neg Bool.false_ne_true]
        exact .perm (.swap _ _ _) .rest
    have none : closes l s.d (k, e) = false → Ψ .next ((it, .obj o) :: (g, .list (mksV (s.row ++ [(k, e)]))) :: (L, .ns [("text", .str (S l)), ("k", .int k), ("e", .int e), ("row", .ref g), ("depth", .int d'), ("last", .lst (mksV s.last))]) :: R) := fun hcl => by
      refine h g _ ?_
      have hls : ls1 l s (k, e) = ⟨s.last, s.row ++ [(k, e)], d'⟩ := by
        unfold ls1
        rw [if_neg (by rw [hcl]; decide), hd', ← hch]
      rw [hls]
      exact .rest
    have hcl : closes l s.d (k, e) = (e == l.length || (d' == 0 && isEnd c)) := by unfold closes; dsimp only; rw [hch, hd']
    refine Ex.cons ?_
    refine Ex1.ite ?_
    refine Ts.or ?_
    refine Ts.cmp ?_
    walk_at "nm"
    refine Ev.lenT G hlen hl (by walk_at "mem") (by walk_at "mem") ?_
    refine Cmp.eqI ?_
    refine ite_b (fun h1 => ?_) fun h1 => ?_
    · refine ite_t rfl ?_
      have h1 := nat_eq h1
      exact tail (by rw [hcl, h1]; simp)
    have h1 : (e == l.length) = false := by have := nat_ne h1; simpa using this
    rw [h1, Bool.false_or] at hcl
    refine Ts.or ?_
    refine Ts.and ?_
    refine Ts.cmp ?_
    walk_at "nm"
    refine Ev.int ?_
    refine Cmp.eqI ?_
    refine ite_b (fun h2 => ?_) fun h2 => ?_
    · have h2 : d' = 0 := nat_eq (k := 0) h2
      rw [h2, show ((0 : Nat) == 0) = true from rfl, Bool.true_and] at hcl
      refine Ts.and ?_
      refine Ts.cmp ?_
      refine Ev.chrN hl hc (by walk_at "mem") (by walk_at "mem") (by walk_at "mem") ?_
      refine Ev.strS (a := [10, 35]) (by decide) ?_
      refine Cmp.inB (end_mem _) ?_
      refine ite_b (fun h3 => ?_) fun h3 => ?_
      · refine Ts.and_nil ?_
        refine ite_t rfl ?_
        refine ite_t rfl ?_
        exact tail (by rw [hcl, h3])
      · refine ite_f rfl ?_
        refine Ts.or_nil ?_
        refine ite_f rfl (Ex.nil (Ex.nil ?_))
        exact none (by rw [hcl, h3])
    · have h2 : (d' == 0) = false := by have := nat_ne (k := 0) h2; simpa using this
      refine ite_f rfl ?_
      refine Ts.or_nil ?_
      refine ite_f rfl (Ex.nil (Ex.nil ?_))
      exact none (by rw [hcl, h2, Bool.false_and])
  refine Ex.cons ?_
  refine Ex1.ite ?_
  refine Ts.cmp ?_
  refine Ev.chrN hl hc (by walk_at "mem") (by walk_at "mem") (by walk_at "mem") ?_
  refine Ev.strS (a := [40, 91, 123]) (by decide) ?_
  refine Cmp.inB (op_mem _) ?_
  refine ite_b (fun h1 => ?_) fun h1 => ?_
  · refine Ex.cons ?_
    refine Ex1.assign ?_ ?_
    rotate_left
    · kernel_rfl
    refine Ev.bin ?_
    walk_at "nm"
    refine Ev.int ?_
    refine Op2.addI ?_
    walk_at "sto"
    refine Ex.nil ?_
    exact fin (s.d + 1) (by unfold lvlM; rw [if_pos h1])
  refine Ex.cons ?_
  refine Ex1.ite ?_
  refine Ts.cmp ?_
  refine Ev.chrN hl hc (by walk_at "mem") (by walk_at "mem") (by walk_at "mem") ?_
  refine Ev.strS (a := [41, 93, 125]) (by decide) ?_
  refine Cmp.inB (cl_mem _) ?_
  have h1' : ¬ (isOp c = true) := by rw [h1]; decide
  refine ite_b (fun h2 => ?_) fun h2 => ?_
  · refine Ex.cons ?_
    refine Ex1.assign ?_ ?_
    rotate_left
    · kernel_rfl
    refine Ev.callN ?_
    refine Ev.blt G hmax (u := .builtin "max") (by kernel_rfl) (fun _ => .bi _) ?_
    refine EvL.cons ?_
    refine Ev.bin ?_
    walk_at "nm"
    refine Ev.int ?_
    refine Op2.subI ?_
    refine EvL.cons ?_
    refine Ev.int ?_
    refine EvL.nil ⟨Kpr.bi, ?_⟩
    refine Cl.maxI hh ?_
    rw [max_nat]
    walk_at "sto"
    refine Ex.nil (Ex.nil ?_)
    exact fin (s.d - 1) (by unfold lvlM; rw [if_neg h1', if_pos h2])
  · refine Ex.nil (Ex.nil ?_)
    exact fin s.d (by unfold lvlM; rw [if_neg h1', if_neg (by rw [h2]; decide)])
theorem last_call (G : GX C mg mb) (hlen : mg "len" = none) (hmax : mg "max" = none) (nJ : mg "_law_junk" = some (.ref fJ)) (nM : mg "_law_marks" = some (.ref fM)) (hh : A.handled = none) (hd : A.depth + 1 < recursionLimit)
    (F : FnAt C f (fdOf "_law_last" pm cd sLst) (fnB sLst) ["text"]) (FJ : ∃ pm cd, FnAt C fJ (fdOf "_law_junk" pm cd sJnk) (fnB sJnk) ["text", "k"]) (FM : ∃ pm cd, FnAt C fM (fdOf "_law_marks" pm cd sMks) (fnB sMks) ["text"]) (hlast : l.getLast? = some 10) (hl : l.length ≤ 190)
    (h : ∀ ms, Cut l 0 ms l.length → Φ (.lst (mksV (ms.foldl (ls1 l) ⟨[], [], 0⟩).last)) R) : Cl C A (.ref f) [.str (S l)] R Φ := by
  refine ClC.cl (F.call (r := ["k", "e", "row", "depth", "last"]) G (.cons (.rest (.rest (.rest (.rest (.rest .nil)))))) (by decide) (Nat.lt_of_succ_lt hd) (by decide) fun L => ?_)
  have hh' : (A.deeper (fenv (fdOf "_law_last" pm cd sLst) f L)).handled = none := hh
  have hd' : (A.deeper (fenv (fdOf "_law_last" pm cd sLst) f L)).depth < recursionLimit := hd
  generalize A.deeper (fenv (fdOf "_law_last" pm cd sLst) f L) = A' at hh' hd' ⊢
  obtain ⟨pmM, cdM, FM⟩ := FM
  refine Ex.cons ?_
  refine Ex1.assignS hh' ?_
  refine Ev.tuple ?_
  refine EvL.cons ?_
  refine Ev.list ?_
  refine EvL.nil ?_
  refine EvL.cons ?_
  refine Ev.listM ?_
  refine EvL.nil ?_
  intro g
  refine EvL.cons ?_
  refine Ev.int ?_
  refine EvL.nil ⟨_, rfl, rfl, ?_⟩
  walk_at "sto"
  walk_at "sto"
  walk_at "sto"
  refine Ex.cons ?_
  refine Ex1.forL (fun vs R' => ∃ ms done rest gr vk ve a, ms = done ++ rest ∧ Cut l 0 ms l.length ∧ Cut l a rest l.length ∧ vs = mksV rest ∧ R' = RLa L gr l (done.foldl (ls1 l) ⟨[], [], 0⟩) vk ve R ∧ (∀ m ∈ (done.foldl (ls1 l) ⟨[], [], 0⟩).row, m.1 < l.length) ∧ (done.foldl (ls1 l) ⟨[], [], 0⟩).row.length ≤ done.length) hh' ?_ ?_ ?_
  · refine Ev.callN ?_
    refine Ev.glob G nM (fun _ => .ref _) ?_
    refine EvL.cons ?_
    walk_at "nm"
    refine EvL.nil ⟨FM.kpr, ?_⟩
    refine marks_call G hlen hh' FM hd' hlast hl ?_
    intro ms hcut
    exact ⟨_, rfl, ms, [], ms, g, .any, .any, 0, rfl, hcut, hcut, rfl, rfl, (fun m hm => nomatch hm), Nat.le_refl _⟩
  · rintro it o v rest' R' ⟨ms, done, rest, gr, vk, ve, a, hms, hcut, hrest, hvs, rfl, hrow, hrl⟩
    cases hrest with
    | nil => cases hvs
    | @cons _ e _ rest hm hrest =>
    obtain ⟨rfl, rfl⟩ := List.cons.inj hvs
    have hlt := hm.lt
    have hle := hm.leN
    refine As.tuple ?_ hh'
    refine As.name ?_
    walk_at "sto"
    refine As.name ?_
    walk_at "sto"
    have hlen' := hcut.len
    have hdl : done.length ≤ ms.length := by rw [hms, List.length_append]; lia
    refine last_turn (s := done.foldl (ls1 l) ⟨[], [], 0⟩) G hlen hmax nJ hh' hd' FJ hlast hl (show a < l.length by lia) hrow (by lia) ?_
    intro gr' R₂ wk
    have hfold : (done ++ [(a, e)]).foldl (ls1 l) ⟨[], [], 0⟩ = ls1 l (done.foldl (ls1 l) ⟨[], [], 0⟩) (a, e) := by rw [List.foldl_append]; rfl
    refine ⟨_, wk, ms, done ++ [(a, e)], rest, gr', _, _, e, by rw [hms, List.append_assoc]; rfl, hcut, hrest, rfl, by rw [hfold], ?_, ?_⟩
    · rw [hfold]
      unfold ls1
      split
      · exact fun m hm => nomatch hm
      · intro m hm
        rcases List.mem_append.mp hm with hm | hm
        · exact hrow m hm
        · rw [List.mem_singleton.mp hm]; show a < l.length; lia
    · rw [hfold, List.length_append]
      unfold ls1
      split
      · exact Nat.zero_le _
      · show ((done.foldl (ls1 l) ⟨[], [], 0⟩).row ++ [(a, e)]).length ≤ _
        rw [List.length_append]; exact Nat.add_le_add_right hrl _
  · rintro R' ⟨ms, done, rest, gr, vk, ve, a, hms, hcut, hrest, hvs, rfl, hrow, hrl⟩
    cases rest with
    | cons m rest => cases hvs
    | nil =>
    rw [List.append_nil] at hms
    subst hms
    refine Ex.nil ?_
    show Ex C A' _ _ _ _
    refine Ex.cons ?_
    refine Ex1.ret ?_
    walk_at "nm"
    exact ⟨R, .drop (.drop .rest), h ms hcut⟩
end
noncomputable abbrev M2 (a b c d e f g h i j k l m n : V) : List (Str × V) := [("self", a), ("p", e), ("ch", n), ("code", b), ("q", f), ("lastch", h), ("stack", i), ("bracketing", k), ("i", d), ("newp", m), ("m", l), ("push_stack", j), ("nothing", g), ("goodlines", c)]
noncomputable abbrev RU (L g x : Addr) (l G : List Nat) (i p : Nat) (vq vn : V) (R : Led) : Led :=
  (g, .list (nV G)) :: (L, .ns (M2 (.ref x) (.str (S l)) (.ref g) (.int i) (.int p) vq vn .any .any .any .any .any .any .any)) :: R
noncomputable def sTW : Stmt := stAt 6 (fnB sTwo)
theorem nV_at {G : List Nat} {i a : Nat} (h : G[i]? = some a) : (nV G)[i]? = some (.int a) := by unfold nV; rw [List.getElem?_map, h]; rfl
structure Kit2 (C : Cx) (mg : Str → Option Value) (K : Frag) (c f2 : Addr) : Prop where
  two : ∃ pm cd, FnAt C f2 (fdOf "Parser._study2" pm cd sTwo) (fnB sTwo) ["self"]
  g2 : plainGet K c "_study2" = true
  cf : findIn K (.ref c) "_study2" = some (some (.ref f2))
  t2 : isFn K (.ref f2) = true
  k2 : keepIn K (.ref f2) = true
  at_ : ∀ n ∈ (["stmt_start", "stmt_end", "lastch", "lastopenbracketpos", "stmt_bracketing"] : List Str), plainGet K c n = true ∧ findIn K (.ref c) n = some Option.none ∧ takerIn K c n = some Option.none
  jr : ∃ q p t, mg "_junkre" = some (.ref q) ∧ PatAt C.B q p t c2
  mr : ∃ q p t, mg "_match_stringre" = some (.ref q) ∧ PatAt C.B q p t c3
  cr : ∃ q p t, mg "_chew_ordinaryre" = some (.ref q) ∧ PatAt C.B q p t c6
  range : mg "range" = none
  tuple : mg "tuple" = none
section
variable {C : Cx} {A : Around} {env : Env} {R : Led} {mg mb : Str → Option Value} {K : Frag} {Φ : V → Led → Prop} {Ψ : Fl → Led → Prop} {pm cd : Value} {x dx c f f2 L g : Addr} {pos : Pos} {l bs : List Nat} {s : LS}
theorem up_loop (G : GX C mg mb) (Z2 : Kit2 C mg K c f2) (hh : A.handled = none) (hlast : l.getLast? = some 10) (hl : l.length ≤ 190) (H : Rows l bs s l.length) (hend : bs[bs.length - 1]? = some l.length) (hbl : bs.length ≤ 1000)
    (h1 : ∀ i a b vn, bs[i]? = some a → bs[i + 1]? = some b → s.last ≠ [] → Cut l a s.last b → Ψ .next (RU L g x l (bs.map (nlc l)) (i + 1) a (.int b) vn R))
    (h0 : ∀ vq vn, s.last = [] → Ψ .next (RU L g x l (bs.map (nlc l)) 0 0 vq vn R)) :
    Ex1 C A (fenv (fdOf "Parser._study2" pm cd sTwo) f L) sTW (RU L g x l (bs.map (nlc l)) (bs.length - 1) l.length .any .any R) Ψ := by
  have hlast' : l[l.length - 1]? = some 10 := by rw [← List.getLast?_eq_getElem?]; exact hlast
  have hpos := H.pos
  obtain ⟨jq, jp, jt, nj, PJ⟩ := Z2.jr
  refine Ex1.whil (fun n R' => ∃ i p vq vn, n = i ∧ R' = RU L g x l (bs.map (nlc l)) i p vq vn R ∧ bs[i]? = some p ∧ ∀ (j c : Nat), i ≤ j → j + 1 < bs.length → bs[j]? = some c → Junk l c = true) (n₀ := bs.length - 1) ⟨_, _, _, _, rfl, rfl, hend, fun j c h1 h2 => by lia⟩ ?_
  rintro n R' ⟨i, p, vq, vn, hni, rfl, hp, hall⟩
  have hni := hni.symm
  subst hni
  have hil : i < bs.length := (List.getElem?_eq_some_iff.mp hp).1
  refine Ts.val ?_
  walk_at "nm"
  refine Tr.int ?_
  cases i with
  | zero =>
    refine ite_f rfl (Ex.nil ?_)
    have hp0 : p = 0 := by have := H.zero; rw [hp] at this; exact Option.some.inj this
    subst hp0
    exact h0 _ _ (H.nothing fun j c h1 h2 => hall j c (Nat.zero_le _) h1 h2)
  | succ i =>
    refine ite_t (by rw [bne_iff_ne]; lia) ?_
    obtain ⟨a, ha⟩ : ∃ a, bs[i]? = some a := ⟨_, List.getElem?_eq_getElem (by lia)⟩
    have hap := H.mono ha hp (Nat.lt_succ_self i)
    have hpl : p ≤ l.length := by
      rcases Nat.lt_or_ge (i + 1) (bs.length - 1) with q | q
      · exact Nat.le_of_lt (H.mono hp hend q)
      · rw [show i + 1 = bs.length - 1 by lia, hend] at hp; cases hp; exact Nat.le_refl _
    have hp0 : 0 < p := by lia
    have hBa := H.begin ha
    have hBp := H.begin hp
    have hmn := nlc_mono (l := l) (Nat.le_of_lt hap)
    have hn190 : nlc l p ≤ 190 := by
      unfold nlc
      exact Nat.le_trans (List.count_le_length) (by rw [List.length_take]; lia)
    refine Ex.cons ?_
    refine Ex1.assert ?_
    refine Ts.val ?_
    walk_at "nm"
    refine Tr.int ⟨by rw [bne_iff_ne]; lia, ?_⟩
    refine Ex.cons ?_
    refine Ex1.assign ?_ ?_
    rotate_left
    · kernel_rfl
    walk_at "nm"
    walk_at "sto"
    refine Ex.cons ?_
    refine Ex1.forW (fun vs R' => ∃ pt vn', vs.length = nlc l pt - nlc l a ∧ nlc l a ≤ nlc l pt ∧ Begin l pt ∧ pt ≤ l.length ∧ R' = RU L g x l (bs.map (nlc l)) (i + 1) pt (.int p) vn' R) ?_ ?_ ?_
    · refine Ev.callN ?_
      refine Ev.blt G Z2.range (u := .type "range") (by kernel_rfl) (fun _ => .ty _) ?_
      refine EvL.cons ?_
      refine Ev.item ?_
      walk_at "nm"
      refine Ev.bin ?_
      walk_at "nm"
      refine Ev.int ?_
      refine Op2.subI ?_
      rw [show (((i + 1 : Nat) : Int) - 1) = (i : Int) by lia]
      refine Itm.lst (w := .int (nlc l a)) (LstOf.at (by walk_at "mem")) (by lia) (nV_at (by rw [List.getElem?_map, Int.toNat_natCast, ha]; rfl)) ?_ (by lia)
      refine EvL.cons ?_
      refine Ev.item ?_
      walk_at "nm"
      walk_at "nm"
      refine Itm.lst (w := .int (nlc l p)) (LstOf.at (by walk_at "mem")) (by lia) (nV_at (by rw [List.getElem?_map, Int.toNat_natCast, hp]; rfl)) ?_ (by lia)
      refine EvL.nil ⟨Kpr.ty, ?_⟩
      refine Cl.range2 fun r t u v => ?_
      refine ⟨_, _, Itb.rng (a := nlc l a) (n := nlc l p - nlc l a) hh (.head _) (.inl (by lia)) ⟨by lia, by lia, by lia⟩, .drop .rest, p, vn, ?_, hmn, hBp, hpl, rfl⟩
      rw [List.length_map, List.length_range']
    · rintro it o v rest R' ⟨pt, vn', hlen, hle, hB, hptl, rfl⟩
      have hlen : rest.length + 1 = nlc l pt - nlc l a := hlen
      have hpt0 : 0 < pt := Nat.pos_of_ne_zero fun e => by rw [e, nlc_zero] at hlen; lia
      refine As.name ?_
      walk_at "sto"
      refine Ex.cons ?_
      refine Ex1.assign ?_ ?_
      rotate_left
      · kernel_rfl
      refine Ev.bin ?_
      refine Ev.meth (T := "str") ⟨PySem.F.plainAttrs_str, PySem.F.slot_str_rfind, PySem.F.type_str_rfind⟩ ?_
      walk_at "nm"
      refine ⟨TyIs.str, ?_⟩
      refine EvL.cons ?_
      refine Ev.strS (a := [10]) (by decide) ?_
      refine EvL.cons ?_
      refine Ev.int ?_
      refine EvL.cons ?_
      refine Ev.bin ?_
      walk_at "nm"
      refine Ev.int ?_
      refine Op2.subI ?_
      refine EvL.nil ?_
      rw [show ((pt : Int) - 1) = ((pt - 1 : Nat) : Int) by lia]
      refine Cl.rfind4 (hi := pt - 1) (by lia) (fun hn => ?_) fun k hk hk10 hn => ?_
      · have e1 := hB.none hpt0 hptl hn
        refine Ev.int ?_
        refine Op2.addI ?_
        walk_at "sto"
        refine Ex.nil ⟨_, .rest, 0, _, ?_, ?_, .inl rfl, Nat.zero_le _, rfl⟩
        · rw [nlc_zero]; lia
        · rw [nlc_zero]; lia
      · have e1 := hB.some hptl hk hn
        refine Ev.int ?_
        refine Op2.addI ?_
        walk_at "sto"
        refine Ex.nil ⟨_, .rest, k + 1, _, ?_, ?_, .inr ⟨Nat.succ_pos _, hk10⟩, by lia, rfl⟩
        · lia
        · lia
    · rintro R' ⟨pt, vn', hlen, hle, hB, hptl, rfl⟩
      have hlen : 0 = nlc l pt - nlc l a := hlen
      have hpa : pt = a := hB.eq hBa (by lia)
      subst hpa
      refine Ex.nil ?_
      show Ex C A _ _ _ _
      refine Ex.cons ?_
      refine Ex1.ite ?_
      refine Ts.val ?_
      refine Ev.callN ?_
      refine Ev.glob G nj (fun _ => .ref _) ?_
      refine EvL.cons ?_
      walk_at "nm"
      refine EvL.cons ?_
      walk_at "nm"
      refine EvL.nil ⟨Kpr.pat (mg := mg) PJ, ?_⟩
      obtain ⟨r, hE, hr⟩ := junk_re (l := l) (h := pt) (o := true) hlast' (by lia) (show pt < l.length by lia)
      refine Cl.match2 PJ (by lia) (by lia) (fm2 (by lia)) hE (by decide) ?_
      cases r with
      | some e =>
        intro m tu sv
        refine Tr.mat (by walk_at "mem") ?_
        refine ite_t rfl ?_
        show Ex C A _ _ _ _
        refine Ex.wk (.drop (.drop .rest)) ?_
        refine Ex.cons ?_
        refine Ex1.assign ?_ ?_
        rotate_left
        · kernel_rfl
        refine Ev.bin ?_
        walk_at "nm"
        refine Ev.int ?_
        refine Op2.subI ?_
        rw [show (((i + 1 : Nat) : Int) - 1) = (i : Int) by lia]
        walk_at "sto"
        refine Ex.nil (Ex.nil ?_)
        refine ⟨i, Nat.lt_succ_self i, i, pt, _, _, rfl, rfl, ha, fun j c hij hj hc => ?_⟩
        rcases Nat.lt_or_ge i j with q | q
        · exact hall j c q hj hc
        · rw [show j = i by lia, ha] at hc; cases hc; exact hr.symm
      | none =>
        refine Tr.none ?_
        refine ite_f rfl ?_
        refine Ex.cons ?_
        refine Ex1.brk ?_
        have hf := H.found ha hp hr.symm fun j c hij hj hc => hall j c hij hj hc
        exact h1 i pt p _ ha hp hf.2 hf.1
end
noncomputable abbrev RD (L gs qp gb x : Addr) (l : List Nat) (p q : Nat) (F : FS) (vg vi vn vm vnp vch : V) (R : Led) : Led :=
  (gb, .list (mksV F.rows)) :: (qp, .obj (appendOf gs)) :: (gs, .list (nV F.stk)) :: (L, .ns (M2 (.ref x) (.str (S l)) vg vi (.int p) (.int q) vn (.str (S F.ch)) (.ref gs) (.ref qp) (.ref gb) vm vnp vch)) :: R
noncomputable def sTD : Stmt := stAt 13 (fnB sTwo)
section
variable {l : List Nat} {F : FS} {p e c : Nat}
theorem fs_op (h : l[p]? = some c) (ho : isOp c = true) : fs1 l F (p, e) = ⟨F.stk ++ [p], F.rows ++ [(p, F.stk.length + 1)], [c]⟩ := by
  have hne : ¬ (c = 32 ∨ c = 9 ∨ c = 10 ∨ c = 35) ∧ c ≠ 92 := by
    unfold isOp at ho
    simp only [Bool.or_eq_true, beq_iff_eq] at ho
    lia
  unfold fs1 stk1 rows1 chOf
  dsimp only
  rw [chr_at h, if_pos ho, if_pos ho, if_neg hne.1, if_neg hne.2]
  rfl
theorem fs_cl (h : l[p]? = some c) (ho : isOp c = false) (hc : isCl c = true) : fs1 l F (p, e) = ⟨F.stk.dropLast, F.rows ++ [(e, F.stk.length - 1)], [c]⟩ := by
  have hne : ¬ (c = 32 ∨ c = 9 ∨ c = 10 ∨ c = 35) ∧ c ≠ 92 := by
    unfold isCl at hc
    simp only [Bool.or_eq_true, beq_iff_eq] at hc
    lia
  unfold fs1 stk1 rows1 chOf
  dsimp only
  rw [chr_at h, ho, hc, if_neg hne.1, if_neg hne.2]
  rfl
theorem fs_str (h : l[p]? = some c) (hc : c = 34 ∨ c = 39) : fs1 l F (p, e) = ⟨F.stk, F.rows ++ [(p, F.stk.length + 1)] ++ [(e, F.stk.length)], [c]⟩ := by
  unfold fs1 stk1 rows1 chOf
  dsimp only
  rw [chr_at h]
  rcases hc with rfl | rfl
  · show (⟨F.stk, F.rows ++ [(p, F.stk.length + 1), (e, F.stk.length)], [34]⟩ : FS) = _
    rw [List.append_assoc]; rfl
  · show (⟨F.stk, F.rows ++ [(p, F.stk.length + 1), (e, F.stk.length)], [39]⟩ : FS) = _
    rw [List.append_assoc]; rfl
theorem fs_hash (h : l[p]? = some 35) : fs1 l F (p, e) = ⟨F.stk, F.rows ++ [(p, F.stk.length + 1)] ++ [(e, F.stk.length)], F.ch⟩ := by
  unfold fs1 stk1 rows1 chOf
  dsimp only
  rw [chr_at h]
  show (⟨F.stk, F.rows ++ [(p, F.stk.length + 1), (e, F.stk.length)], F.ch⟩ : FS) = _
  rw [List.append_assoc]; rfl
theorem fs_bs {d : Nat} (h : l[p]? = some 92) (h' : l[p + 1]? = some d) : fs1 l F (p, e) = ⟨F.stk, F.rows, if d = 10 then F.ch else [92, d]⟩ := by
  unfold fs1 stk1 rows1 chOf
  dsimp only
  rw [chr_at h, chr_at h']
  show (⟨F.stk, F.rows ++ [], newer F.ch (if d = 10 then [] else [92, d])⟩ : FS) = _
  rw [List.append_nil]
  by_cases hd : d = 10
  · rw [if_pos hd, if_pos hd]; rfl
  · rw [if_neg hd, if_neg hd]; rfl
theorem mk_one (hm : Mk l p e) (hc : l[p]? = some c) (hn : c ≠ 35 ∧ c ≠ 92 ∧ c ≠ 34 ∧ c ≠ 39) : e = p + 1 := by
  cases hm with
  | one _ _ _ _ _ => rfl
  | com h _ _ _ => rw [hc] at h; exact absurd (Option.some.inj h) hn.1
  | bs h _ => rw [hc] at h; exact absurd (Option.some.inj h) hn.2.1
  | s3h hq h _ _ => have h := h.1; rw [hc] at h; cases h; lia
  | s3e hq h _ => have h := h.1; rw [hc] at h; cases h; lia
  | s1h hq h _ _ _ => rw [hc] at h; cases h; lia
  | s1e hq h _ _ _ => rw [hc] at h; cases h; lia
theorem mk_com (hm : Mk l p e) (hc : l[p]? = some 35) : ∃ m, p < m ∧ l[m]? = some 10 ∧ (∀ j, p < j → j < m → l[j]? ≠ some 10) ∧ e = m + 1 := by
  cases hm with
  | one h h' _ _ _ => rw [hc] at h; cases h; exact absurd rfl h'
  | com h h1 h2 h3 => exact ⟨_, h1, h2, h3, rfl⟩
  | bs h _ => rw [hc] at h; cases h
  | s3h hq h _ _ => have h := h.1; rw [hc] at h; cases h; lia
  | s3e hq h _ => have h := h.1; rw [hc] at h; cases h; lia
  | s1h hq h _ _ _ => rw [hc] at h; cases h; lia
  | s1e hq h _ _ _ => rw [hc] at h; cases h; lia
theorem mk_bs (hm : Mk l p e) (hc : l[p]? = some 92) : p + 2 ≤ l.length ∧ e = p + 2 := by
  cases hm with
  | one h _ h' _ _ => rw [hc] at h; cases h; exact absurd rfl h'
  | com h _ _ _ => rw [hc] at h; cases h
  | bs h h' => exact ⟨h', rfl⟩
  | s3h hq h _ _ => have h := h.1; rw [hc] at h; cases h; lia
  | s3e hq h _ => have h := h.1; rw [hc] at h; cases h; lia
  | s1h hq h _ _ _ => rw [hc] at h; cases h; lia
  | s1e hq h _ _ _ => rw [hc] at h; cases h; lia
end
section
variable {C : Cx} {A : Around} {env : Env} {R : Led} {mg mb : Str → Option Value} {K : Frag} {Φ : V → Led → Prop} {Ψ : Fl → Led → Prop} {pm cd : Value} {x dx cc f f2 L gs qp gb : Addr} {pos : Pos} {l : List Nat} {F : FS} {p e c q : Nat} {vg vi vn vm vnp vch : V}
theorem part2 (G : GX C mg mb) (hlen : mg "len" = none) (Z2 : Kit2 C mg K cc f2) (hl : l.length ≤ 190) (hq : q ≤ l.length) (hpe : Mk l p e) (heq : e ≤ q) (hc : l[p]? = some c) (hno : isOrd c = false) (hs1 : F.stk.length ≤ 1000) (hs2 : F.rows.length ≤ 1000)
    (h : ∀ fl vi vm vnp vch R₂, (fl = .next ∨ fl = .cont) → Wk R₂ (RD L gs qp gb x l e q (fs1 l F (p, e)) vg vi vn vm vnp vch R) → Ψ fl R₂) :
    Ex C A (fenv (fdOf "Parser._study2" pm cd sTwo) f L) ((whB sTD).drop 2) (RD L gs qp gb x l p q F vg vi vn vm vnp vch R) Ψ := by
  have hlt := hpe.lt
  have hpl : p < l.length := by lia
  obtain ⟨mq, mp, mt, nm, PM⟩ := Z2.mr
  refine Ex.cons ?_
  refine Ex1.assign ?_ ?_
  rotate_left
  · kernel_rfl
  refine Ev.chrN hl hc (by walk_at "mem") (by walk_at "mem") (by walk_at "mem") ?_
  walk_at "sto"
  refine Ex.cons ?_
  refine Ex1.ite ?_
  refine Ts.cmp ?_
  walk_at "nm"
  refine Ev.strS (a := [40, 91, 123]) (by decide) ?_
  refine Cmp.inB (op_mem _) ?_
  refine ite_b (fun h1 => ?_) fun h1 => ?_
  · /- open -/
    have he : e = p + 1 := mk_one hpe hc (by
      unfold isOp at h1
      simp only [Bool.or_eq_true, beq_iff_eq] at h1
      lia)
    subst he
    rw [fs_op hc h1] at h
    refine Ex.cons ?_
    refine Ex1.expr ?_
    refine Ev.callN ?_
    walk_at "nm"
    refine EvL.cons ?_
    walk_at "nm"
    refine EvL.nil ⟨Kpr.app (a := gs) (by walk_at "mem"), ?_⟩
    refine Cl.app (a := gs) (by walk_at "mem") (by walk_at "upd") (by rw [List.length_map]; lia) ⟨rfl, ?_⟩
    refine Ex.cons ?_
    refine Ex1.appPair (by walk_at "mem") (by walk_at "mem") (by walk_at "mem") ?_
    walk_at "nm"
    refine Ev.lenM (n := F.stk.length + 1) G hlen (by walk_at "mem") (by walk_at "mem") (by walk_at "mem") (by rw [List.length_append, List.length_map]; rfl) (by lia) ?_
    refine ⟨_, _, by walk_at "upd", by rw [List.length_map]; lia, ?_⟩
    refine Ex.cons ?_
    refine Ex1.assign ?_ ?_
    rotate_left
    · kernel_rfl
    walk_at "nm"
    walk_at "sto"
    refine Ex.cons ?_
    refine Ex1.assign ?_ ?_
    rotate_left
    · kernel_rfl
    refine Ev.bin ?_
    walk_at "nm"
    refine Ev.int ?_
    refine Op2.addI ?_
    walk_at "sto"
    refine Ex.cons ?_
    refine Ex1.cont ?_
    refine h .cont vi vm vnp (.str (S [c])) _ (.inr rfl) ?_
    unfold RD mksV
    rw [nV_app, List.map_append]
    exact .rest
  have h1' : ¬ (isOp c = true) := by rw [h1]; decide
  refine Ex.nil ?_
  show Ex C A _ _ _ _
  refine Ex.cons ?_
  refine Ex1.ite ?_
  refine Ts.cmp ?_
  walk_at "nm"
  refine Ev.strS (a := [41, 93, 125]) (by decide) ?_
  refine Cmp.inB (cl_mem _) ?_
  refine ite_b (fun h2 => ?_) fun h2 => ?_
  · /- close -/
    have he : e = p + 1 := mk_one hpe hc (by
      unfold isCl at h2
      simp only [Bool.or_eq_true, beq_iff_eq] at h2
      lia)
    subst he
    rw [fs_cl hc h1 h2] at h
    have fin : Ex C A (fenv (fdOf "Parser._study2" pm cd sTwo) f L) ((ifB (stAt 4 (whB sTD))).drop 1)
        ((gb, .list (mksV F.rows)) :: (qp, .obj (appendOf gs)) :: (gs, .list (nV F.stk.dropLast)) :: (L, .ns (M2 (.ref x) (.str (S l)) vg vi (.int p) (.int q) vn (.str (S F.ch)) (.ref gs) (.ref qp) (.ref gb) vm vnp (.str (S [c])))) :: R) (Seq C A (fenv (fdOf "Parser._study2" pm cd sTwo) f L) ((whB sTD).drop 5) Ψ) := by
      refine Ex.cons ?_
      refine Ex1.assign ?_ ?_
      rotate_left
      · kernel_rfl
      walk_at "nm"
      walk_at "sto"
      refine Ex.cons ?_
      refine Ex1.assign ?_ ?_
      rotate_left
      · kernel_rfl
      refine Ev.bin ?_
      walk_at "nm"
      refine Ev.int ?_
      refine Op2.addI ?_
      walk_at "sto"
      refine Ex.cons ?_
      refine Ex1.appPair (by walk_at "mem") (by walk_at "mem") (by walk_at "mem") ?_
      walk_at "nm"
      refine Ev.lenM (n := F.stk.length - 1) G hlen (by walk_at "mem") (by walk_at "mem") (by walk_at "mem") (by rw [List.length_map, List.length_dropLast]) (by lia) ?_
      refine ⟨_, _, by walk_at "upd", by rw [List.length_map]; lia, ?_⟩
      refine Ex.cons ?_
      refine Ex1.cont ?_
      refine h .cont vi vm vnp (.str (S [c])) _ (.inr rfl) ?_
      unfold RD mksV
      rw [List.map_append]
      exact .rest
    refine Ex.cons ?_
    refine Ex1.ite ?_
    refine Ts.val ?_
    walk_at "nm"
    refine Tr.lst (LstOf.at (by walk_at "mem")) (by rw [List.length_map]; lia) ?_
    rcases List.eq_nil_or_concat F.stk with hs | ⟨init, y, hs⟩
    · rw [hs] at fin ⊢
      refine ite_f rfl (Ex.nil ?_)
      exact fin
    · rw [List.concat_eq_append] at hs
      rw [hs] at fin ⊢
      rw [List.dropLast_concat] at fin
      refine ite_t (by rw [nV_app]; simp) ?_
      refine Ex.cons ?_
      refine Ex1.delLast (a := gs) (vs := nV init) (v := .int y) (R' := (gb, .list (mksV F.rows)) :: (qp, .obj (appendOf gs)) :: (gs, .list (nV init)) :: (L, .ns (M2 (.ref x) (.str (S l)) vg vi (.int p) (.int q) vn (.str (S F.ch)) (.ref gs) (.ref qp) (.ref gb) vm vnp (.str (S [c])))) :: R) ?_ (by have := hs1; rw [hs, List.length_append] at this; rw [List.length_map]; lia)
      rw [show nV (init ++ [y]) = nV init ++ [V.int y] by rw [nV_app]; rfl]
      refine Ev.loc (by walk_at "mem") (by walk_at "mem") ⟨rfl, ?_⟩
      refine Ev.neg ?_
      refine Ev.int ?_
      refine ⟨_, rfl, rfl, by walk_at "upd", ?_⟩
      refine Ex.nil ?_
      exact fin
  refine Ex.nil ?_
  show Ex C A _ _ _ _
  refine Ex.cons ?_
  refine Ex1.ite ?_
  have str : c = 34 ∨ c = 39 → Ex C A (fenv (fdOf "Parser._study2" pm cd sTwo) f L) (ifB (stAt 5 (whB sTD))) (RD L gs qp gb x l p q F vg vi vn vm vnp (.str (S [c])) R) (Seq C A (fenv (fdOf "Parser._study2" pm cd sTwo) f L) ((whB sTD).drop 6) Ψ) := fun h3 => by
    rw [fs_str hc h3] at h
    refine Ex.cons ?_
    refine Ex1.appPair (by walk_at "mem") (by walk_at "mem") (by walk_at "mem") ?_
    walk_at "nm"
    refine Ev.bin ?_
    refine Ev.lenM G hlen (by walk_at "mem") (by walk_at "mem") (by walk_at "mem") (by rw [List.length_map]) (by lia) ?_
    refine Ev.int ?_
    refine Op2.addI ?_
    refine ⟨_, _, by walk_at "upd", by rw [List.length_map]; lia, ?_⟩
    refine Ex.cons ?_
    refine Ex1.assign ?_ ?_
    rotate_left
    · kernel_rfl
    walk_at "nm"
    walk_at "sto"
    refine Ex.cons ?_
    refine Ex1.assign ?_ ?_
    rotate_left
    · kernel_rfl
    refine Ev.meth (T := "re.Match") meth_end ?_
    refine Ev.callN ?_
    refine Ev.glob G nm (fun _ => .ref _) ?_
    refine EvL.cons ?_
    walk_at "nm"
    refine EvL.cons ?_
    walk_at "nm"
    refine EvL.cons ?_
    walk_at "nm"
    refine EvL.nil ⟨Kpr.pat (mg := mg) PM, ?_⟩
    have hE := str_end (l := l) (lim := q) (h := p) (o := true) hpe (by rcases h3 with rfl | rfl; exact .inl hc; exact .inr hc) hq (by lia) heq
    refine Cl.match3 PM (by lia) (by lia) hq (fm3 (by lia)) hE (by decide) ?_
    intro m tu sv
    refine ⟨TyIs.mat (by walk_at "mem"), ?_⟩
    refine EvL.nil ?_
    refine Cl.endM (by walk_at "mem") (by walk_at "mem") ?_
    walk_at "sto"
    refine Ex.wk (.drop (.drop .rest)) ?_
    refine Ex.cons ?_
    refine Ex1.appPair (by walk_at "mem") (by walk_at "mem") (by walk_at "mem") ?_
    walk_at "nm"
    refine Ev.lenM G hlen (by walk_at "mem") (by walk_at "mem") (by walk_at "mem") (by rw [List.length_map]) (by lia) ?_
    refine ⟨_, _, by walk_at "upd", by rw [List.length_append, List.length_map]; show _ + 1 ≤ _; lia, ?_⟩
    refine Ex.cons ?_
    refine Ex1.cont ?_
    refine h .cont vi vm vnp (.str (S [c])) _ (.inr rfl) ?_
    unfold RD mksV
    rw [List.map_append, List.map_append]
    exact .rest
  refine Ts.or ?_
  refine Ts.cmp ?_
  walk_at "nm"
  refine Ev.strS (a := [34]) (by decide) ?_
  refine Cmp.eqCh ?_
  refine ite_b (fun h3 => ?_) fun h3 => ?_
  · refine ite_t rfl ?_
    exact str (.inl (eq_of_beq h3))
  refine Ts.or ?_
  refine Ts.cmp ?_
  walk_at "nm"
  refine Ev.strS (a := [39]) (by decide) ?_
  refine Cmp.eqCh ?_
  refine ite_b (fun h4 => ?_) fun h4 => ?_
  · refine ite_t rfl ?_
    exact str (.inr (eq_of_beq h4))
  refine Ts.or_nil ?_
  refine ite_f rfl (Ex.nil ?_)
  show Ex C A _ _ _ _
  refine Ex.cons ?_
  refine Ex1.ite ?_
  refine Ts.cmp ?_
  walk_at "nm"
  refine Ev.strS (a := [35]) (by decide) ?_
  refine Cmp.eqCh ?_
  refine ite_b (fun h5 => ?_) fun h5 => ?_
  · have h5 : c = 35 := eq_of_beq h5
    subst h5
    rw [fs_hash hc] at h
    obtain ⟨m, hpm, hm, hnm, rfl⟩ := mk_com hpe hc
    refine Ex.cons ?_
    refine Ex1.appPair (by walk_at "mem") (by walk_at "mem") (by walk_at "mem") ?_
    walk_at "nm"
    refine Ev.bin ?_
    refine Ev.lenM G hlen (by walk_at "mem") (by walk_at "mem") (by walk_at "mem") (by rw [List.length_map]) (by lia) ?_
    refine Ev.int ?_
    refine Op2.addI ?_
    refine ⟨_, _, by walk_at "upd", by rw [List.length_map]; lia, ?_⟩
    refine Ex.cons ?_
    refine Ex1.assign ?_ ?_
    rotate_left
    · kernel_rfl
    refine Ev.bin ?_
    refine Ev.meth (T := "str") ⟨PySem.F.plainAttrs_str, PySem.F.slot_str_find, PySem.F.type_str_find⟩ ?_
    walk_at "nm"
    refine ⟨TyIs.str, ?_⟩
    refine EvL.cons ?_
    refine Ev.strS (a := [10]) (by decide) ?_
    refine EvL.cons ?_
    walk_at "nm"
    refine EvL.cons ?_
    walk_at "nm"
    refine EvL.nil ?_
    refine Cl.find4 (k := m) hq (by lia) (by lia) hm (fun j hj1 hj2 => ?_) ?_
    · by_cases hjp : j = p
      · subst hjp; rw [hc]; decide
      · exact hnm j (by lia) hj2
    refine Ev.int ?_
    refine Op2.addI ?_
    walk_at "sto"
    refine Ex.cons ?_
    refine Ex1.assert ?_
    refine Ts.cmp ?_
    walk_at "nm"
    refine Ev.int ?_
    refine Cmp.gtI ⟨decide_eq_true (by lia), ?_⟩
    refine Ex.cons ?_
    refine Ex1.appPair (by walk_at "mem") (by walk_at "mem") (by walk_at "mem") ?_
    walk_at "nm"
    refine Ev.lenM G hlen (by walk_at "mem") (by walk_at "mem") (by walk_at "mem") (by rw [List.length_map]) (by lia) ?_
    refine ⟨_, _, by walk_at "upd", by rw [List.length_append, List.length_map]; show _ + 1 ≤ _; lia, ?_⟩
    refine Ex.cons ?_
    refine Ex1.cont ?_
    refine h .cont vi vm vnp (.str (S [35])) _ (.inr rfl) ?_
    unfold RD mksV
    rw [List.map_append, List.map_append]
    exact .rest
  refine Ex.nil ?_
  show Ex C A _ _ _ _
  have hc92 : c = 92 := by
    unfold isOrd at hno
    unfold isOp at h1
    unfold isCl at h2
    simp only [Bool.not_eq_false', Bool.or_eq_true, beq_iff_eq] at hno
    simp only [Bool.or_eq_false_iff, beq_eq_false_iff_ne] at h1 h2
    simp only [beq_eq_false_iff_ne] at h3 h4 h5
    lia
  subst hc92
  obtain ⟨hp2, rfl⟩ := mk_bs hpe hc
  obtain ⟨d, hd⟩ : ∃ d, l[p + 1]? = some d := ⟨_, List.getElem?_eq_getElem (by lia)⟩
  rw [fs_bs hc hd] at h
  refine Ex.cons ?_
  refine Ex1.assert ?_
  refine Ts.cmp ?_
  walk_at "nm"
  refine Ev.strS (a := [92]) (by decide) ?_
  refine Cmp.eqS ⟨by rw [one_eq]; rfl, ?_⟩
  refine Ex.cons ?_
  refine Ex1.assign ?_ ?_
  rotate_left
  · kernel_rfl
  refine Ev.bin ?_
  walk_at "nm"
  refine Ev.int ?_
  refine Op2.addI ?_
  walk_at "sto"
  refine Ex.cons ?_
  refine Ex1.assert ?_
  refine Ts.cmp ?_
  walk_at "nm"
  walk_at "nm"
  refine Cmp.ltI ⟨decide_eq_true (by lia), ?_⟩
  refine Ex.cons ?_
  refine Ex1.ite ?_
  refine Ts.cmp ?_
  refine Ev.item ?_
  walk_at "nm"
  walk_at "nm"
  refine Itm.chr hl hd ?_
  refine Ev.strS (a := [10]) (by decide) ?_
  refine Cmp.neCh ?_
  refine ite_b (fun h6 => ?_) fun h6 => ?_
  · have h6 : d ≠ 10 := by simpa using h6
    rw [if_neg h6] at h
    refine Ex.cons ?_
    refine Ex1.assign ?_ ?_
    rotate_left
    · kernel_rfl
    refine Ev.bin ?_
    walk_at "nm"
    refine Ev.item ?_
    walk_at "nm"
    walk_at "nm"
    refine Itm.chr hl hd ?_
    refine Op2.addT rfl rfl (by show 1 + 1 ≤ 16777216; decide) ?_
    walk_at "sto"
    refine Ex.nil ?_
    show Ex C A _ _ _ _
    refine Ex.cons ?_
    refine Ex1.assign ?_ ?_
    rotate_left
    · kernel_rfl
    refine Ev.bin ?_
    walk_at "nm"
    refine Ev.int ?_
    refine Op2.addI ?_
    walk_at "sto"
    refine Ex.nil ?_
    exact h .next vi vm vnp (.str (S [92])) _ (.inl rfl) .rest
  · have h6 : d = 10 := by simpa using h6
    rw [if_pos h6] at h
    refine Ex.nil ?_
    show Ex C A _ _ _ _
    refine Ex.cons ?_
    refine Ex1.assign ?_ ?_
    rotate_left
    · kernel_rfl
    refine Ev.bin ?_
    walk_at "nm"
    refine Ev.int ?_
    refine Op2.addI ?_
    walk_at "sto"
    refine Ex.nil ?_
    exact h .next vi vm vnp (.str (S [92])) _ (.inl rfl) .rest
end
theorem bl_mem (c : Nat) : decide (c ∈ [32, 9, 10]) = blank c := by unfold blank; rw [Bool.eq_iff_iff]; simp [or_assoc]
section
variable {l : List Nat} {F : FS} {p e c : Nat}
theorem stk1_len (s : List Nat) (m : Nat × Nat) : (stk1 l s m).length ≤ s.length + 1 := by
  unfold stk1
  split
  · rw [List.length_append]; exact Nat.le_refl _
  · split
    · rw [List.length_dropLast]; lia
    · lia
theorem rows1_len (d : Nat) (m : Nat × Nat) : (rows1 l d m).length ≤ 2 := by
  unfold rows1
  dsimp only
  split
  · exact Nat.le_succ _
  · split
    · exact Nat.le_succ _
    · split
      · exact Nat.le_refl _
      · exact Nat.zero_le _
theorem fs1_len (m : Nat × Nat) (h1 : F.stk.length ≤ p) (h2 : F.rows.length ≤ 2 * p + 1) (hpe : p < e) : (fs1 l F m).stk.length ≤ e ∧ (fs1 l F m).rows.length ≤ 2 * e + 1 := by
  have a := stk1_len (l := l) F.stk m
  have b := rows1_len (l := l) F.stk.length m
  refine ⟨?_, ?_⟩
  · show (stk1 l F.stk m).length ≤ e; lia
  · show (F.rows ++ rows1 l F.stk.length m).length ≤ _
    rw [List.length_append]; lia
end
section
variable {C : Cx} {A : Around} {env : Env} {R : Led} {mg mb : Str → Option Value} {K : Frag} {Φ : V → Led → Prop} {Ψ : Fl → Led → Prop} {pm cd : Value} {x dx cc f f2 L gs qp gb : Addr} {pos : Pos} {l : List Nat} {F : FS} {p e c q n : Nat} {vg vi vn vm vnp vch : V}
noncomputable def sChew : List Stmt := ifB (stAt 1 (whB sTD))
theorem blanks (hl : l.length ≤ 190) (hq : p + n ≤ l.length)
    (h0 : (∀ j, j < n → blank (chr l (p + j)) = true) → Ψ .next (RD L gs qp gb x l p q F vg (.int ((p : Int) - 1)) vn vm vnp vch R))
    (h1 : ∀ i, i < n → blank (chr l (p + i)) = false → (∀ j, i < j → j < n → blank (chr l (p + j)) = true) → Ψ .next (RD L gs qp gb x l p q F vg (.int ((p + i : Nat) : Int)) vn vm vnp vch R)) :
    Ex1 C A (fenv (fdOf "Parser._study2" pm cd sTwo) f L) (stAt 2 sChew) (RD L gs qp gb x l p q F vg (.int ((p : Int) + n - 1)) vn vm vnp vch R) Ψ := by
  refine Ex1.whil (fun k R' => k ≤ n ∧ (∀ j, k ≤ j → j < n → blank (chr l (p + j)) = true) ∧ R' = RD L gs qp gb x l p q F vg (.int ((p : Int) + k - 1)) vn vm vnp vch R) (n₀ := n) ⟨Nat.le_refl _, fun j h1 h2 => by lia, rfl⟩ ?_
  rintro k R' ⟨hk, hall, rfl⟩
  refine Ts.and ?_
  refine Ts.cmp ?_
  walk_at "nm"
  walk_at "nm"
  refine Cmp.geI ?_
  cases k with
  | zero =>
    refine ite_f (decide_eq_false (by lia)) ?_
    refine ite_f rfl (Ex.nil ?_)
    rw [show ((p : Int) + ((0 : Nat) : Int) - 1) = (p : Int) - 1 by lia]
    exact h0 fun j hj => hall j (Nat.zero_le _) hj
  | succ k =>
    rw [show ((p : Int) + ((k + 1 : Nat) : Int) - 1) = ((p + k : Nat) : Int) by lia]
    refine ite_t (decide_eq_true (by lia)) ?_
    obtain ⟨c, hc⟩ : ∃ c, l[p + k]? = some c := ⟨_, List.getElem?_eq_getElem (by lia)⟩
    refine Ts.and ?_
    refine Ts.cmp ?_
    refine Ev.chrN hl hc (by walk_at "mem") (by walk_at "mem") (by walk_at "mem") ?_
    refine Ev.strS (a := [32, 9, 10]) (by decide) ?_
    refine Cmp.inB (bl_mem _) ?_
    refine ite_b (fun hb => ?_) fun hb => ?_
    · refine Ts.and_nil ?_
      refine ite_t rfl ?_
      refine Ex.cons ?_
      refine Ex1.assign ?_ ?_
      rotate_left
      · kernel_rfl
      refine Ev.bin ?_
      walk_at "nm"
      refine Ev.int ?_
      refine Op2.subI ?_
      rw [show (((p + k : Nat) : Int) - 1) = (p : Int) + (k : Nat) - 1 by lia]
      walk_at "sto"
      refine Ex.nil ?_
      refine ⟨k, Nat.lt_succ_self k, by lia, fun j h1 h2 => ?_, rfl⟩
      rcases Nat.lt_or_ge k j with q | q
      · exact hall j q h2
      · rw [show j = k by lia, chr_at hc]; exact hb
    · refine ite_f rfl (Ex.nil ?_)
      exact h1 k (by lia) (by rw [chr_at hc]; exact hb) fun j a b => hall j a b
theorem down_loop {b a : Nat} {Fin : FS} {rest : List (Nat × Nat)} (G : GX C mg mb) (hlen : mg "len" = none) (Z2 : Kit2 C mg K cc f2) (hl : l.length ≤ 190) (hb : b ≤ l.length) (hab : a ≤ b) (hcut : Cut l a rest b) (hF : rest.foldl (fs1 l) F = Fin) (hs1 : F.stk.length ≤ a) (hs2 : F.rows.length ≤ 2 * a + 1)
    (h : ∀ vi vm vnp vch R₂, Wk R₂ (RD L gs qp gb x l b b Fin vg vi vn vm vnp vch R) → Ψ .next R₂) :
    Ex1 C A (fenv (fdOf "Parser._study2" pm cd sTwo) f L) sTD (RD L gs qp gb x l a b F vg vi vn vm vnp vch R) Ψ := by
  obtain ⟨cq, cp, ct, nc, PC⟩ := Z2.cr
  refine Ex1.whil (fun n R' => ∃ p rest F vi vm vnp vch, n = b - p ∧ p ≤ b ∧ Cut l p rest b ∧ rest.foldl (fs1 l) F = Fin ∧ F.stk.length ≤ p ∧ F.rows.length ≤ 2 * p + 1 ∧ Wk R' (RD L gs qp gb x l p b F vg vi vn vm vnp vch R)) (n₀ := b - a) ⟨a, rest, F, _, _, _, _, rfl, hab, hcut, hF, hs1, hs2, .rest⟩ ?_
  rintro n R' ⟨p, rest, F, vi, vm, vnp, vch, rfl, hpb, hcut, hF, hs1, hs2, wk⟩
  refine Ts.wk wk ?_
  refine Ts.cmp ?_
  walk_at "nm"
  walk_at "nm"
  refine Cmp.ltI ?_
  refine ite_b (fun hlt => ?_) fun hlt => ?_
  rotate_left
  · have hlt := of_decide_eq_false hlt
    have : p = b := by lia
    subst this
    have : rest = [] := by
      cases rest with
      | nil => rfl
      | cons _ _ => have := hcut.lt (by simp); lia
    subst this
    have hF : F = Fin := hF
    subst hF
    exact Ex.nil (h _ _ _ _ _ .rest)
  have hlt := of_decide_eq_true hlt
  have hpb : p < b := by lia
  /- a mark that is no plain sign -/
  have go2 : ∀ {p' : Nat} {rest' : List (Nat × Nat)} {F' : FS} {vi vm vnp vch : V}, p ≤ p' → p' < b → Cut l p' rest' b → rest'.foldl (fs1 l) F' = Fin → F'.stk.length ≤ p' → F'.rows.length ≤ 2 * p' + 1 → isOrd (chr l p') = false →
      Ex C A (fenv (fdOf "Parser._study2" pm cd sTwo) f L) ((whB sTD).drop 2) (RD L gs qp gb x l p' b F' vg vi vn vm vnp vch R)
        (Turn (fun R₂ => ∃ m, m < b - p ∧ ∃ p rest F vi vm vnp vch, m = b - p ∧ p ≤ b ∧ Cut l p rest b ∧ rest.foldl (fs1 l) F = Fin ∧ F.stk.length ≤ p ∧ F.rows.length ≤ 2 * p + 1 ∧ Wk R₂ (RD L gs qp gb x l p b F vg vi vn vm vnp vch R)) Ψ) := by
    intro p' rest' F' vi vm vnp vch hpp hp'b hcut' hF' hs1' hs2' hno
    cases hcut' with
    | nil => lia
    | @cons _ e _ rest2 hm hcut2 =>
    have hle := hcut2.le
    have hlt' := hm.lt
    obtain ⟨c, hc⟩ : ∃ c, l[p']? = some c := ⟨_, List.getElem?_eq_getElem (by lia)⟩
    rw [chr_at hc] at hno
    refine part2 G hlen Z2 hl hb hm hle hc hno (by lia) (by lia) ?_
    intro fl vi vm vnp vch R₂ hfl wk
    obtain ⟨q1, q2⟩ := fs1_len (l := l) (p', e) hs1' hs2' hlt'
    have goal : ∃ m, m < b - p ∧ ∃ p rest F vi vm vnp vch, m = b - p ∧ p ≤ b ∧ Cut l p rest b ∧ rest.foldl (fs1 l) F = Fin ∧ F.stk.length ≤ p ∧ F.rows.length ≤ 2 * p + 1 ∧ Wk R₂ (RD L gs qp gb x l p b F vg vi vn vm vnp vch R) :=
      ⟨b - e, by lia, e, rest2, fs1 l F' (p', e), _, _, _, _, rfl, hle, hcut2, hF', q1, q2, wk⟩
    rcases hfl with rfl | rfl
    · exact goal
    · exact goal
  obtain ⟨n, hn⟩ : ∃ n, cnt1 isOrd l.toArray (b - p) p = n := ⟨_, rfl⟩
  have hnle : n ≤ b - p := hn ▸ cnt1_le _ _
  have hord : ∀ j, j < n → isOrd (chr l (p + j)) = true := fun j hj => by
    have := cnt1_all (text := l.toArray) (P := isOrd) (b - p) p j (by rw [hn]; exact hj)
    obtain ⟨c, hc⟩ : ∃ c, l[p + j]? = some c := ⟨_, List.getElem?_eq_getElem (by lia)⟩
    rw [at_is hc] at this
    rw [chr_at hc]; exact this
  have hstop : n < b - p → isOrd (chr l (p + n)) = false := fun hlt => by
    have := cnt1_stop (text := l.toArray) (P := isOrd) (b - p) p (by rw [hn]; exact hlt)
    rw [hn] at this
    obtain ⟨c, hc⟩ : ∃ c, l[p + n]? = some c := ⟨_, List.getElem?_eq_getElem (by lia)⟩
    rw [at_is hc] at this
    rw [chr_at hc]; exact this
  refine Ex.cons ?_
  refine Ex1.assign ?_ ?_
  rotate_left
  · kernel_rfl
  refine Ev.callN ?_
  refine Ev.glob G nc (fun _ => .ref _) ?_
  refine EvL.cons ?_
  walk_at "nm"
  refine EvL.cons ?_
  walk_at "nm"
  refine EvL.cons ?_
  walk_at "nm"
  refine EvL.nil ⟨Kpr.pat (mg := mg) PC, ?_⟩
  by_cases hn0 : n = 0
  · subst hn0
    have hE := chew_no (text := l.toArray) (lim := b) (h := p) (o := true) (Nat.le_of_lt hpb) (by lia) hn
    refine Cl.match3 PC (by lia) hpb hb (fm6 hpb) hE (by decide) ?_
    show Sto C A _ _ .none _ _
    walk_at "sto"
    refine Ex.cons ?_
    refine Ex1.ite ?_
    refine Ts.val ?_
    walk_at "nm"
    refine Tr.none ?_
    refine ite_f rfl (Ex.nil ?_)
    exact go2 (Nat.le_refl _) hpb hcut hF hs1 hs2 (hstop (by lia))
  have hE := chew_yes (text := l.toArray) (lim := b) (h := p) (o := true) (Nat.le_of_lt hpb) (by lia) hn (by lia) hnle
  refine Cl.match3 PC (by lia) hpb hb (fm6 hpb) hE (by decide) ?_
  intro mo tu sv
  walk_at "sto"
  refine Ex.cons ?_
  refine Ex1.ite ?_
  refine Ts.val ?_
  walk_at "nm"
  refine Tr.mat (by walk_at "mem") ?_
  refine ite_t rfl ?_
  refine Ex.cons ?_
  refine Ex1.assign ?_ ?_
  rotate_left
  · kernel_rfl
  refine Ev.meth (T := "re.Match") meth_end ?_
  walk_at "nm"
  refine ⟨TyIs.mat (by walk_at "mem"), ?_⟩
  refine EvL.nil ?_
  refine Cl.endM (by walk_at "mem") (by walk_at "mem") ?_
  walk_at "sto"
  refine Ex.wk (.drop (.drop .rest)) ?_
  refine Ex.cons ?_
  refine Ex1.assign ?_ ?_
  rotate_left
  · kernel_rfl
  refine Ev.bin ?_
  walk_at "nm"
  refine Ev.int ?_
  refine Op2.subI ?_
  rw [show (((p + n : Nat) : Int) - 1) = (p : Int) + (n : Nat) - 1 by lia]
  walk_at "sto"
  refine Ex.cons ?_
  obtain ⟨rest', hcut', hfold⟩ := chew (n := n) hcut (by lia) hord hb F
  have tail : ∀ vi, Ex C A (fenv (fdOf "Parser._study2" pm cd sTwo) f L) (sChew.drop 4) (RD L gs qp gb x l p b ⟨F.stk, F.rows, newer F.ch (lastOf l p n)⟩ vg vi vn (.ref mo) (.int ((p + n : Nat) : Int)) vch R)
      (Seq C A (fenv (fdOf "Parser._study2" pm cd sTwo) f L) ((whB sTD).drop 2) (Turn (fun R₂ => ∃ m, m < b - p ∧ ∃ p rest F vi vm vnp vch, m = b - p ∧ p ≤ b ∧ Cut l p rest b ∧ rest.foldl (fs1 l) F = Fin ∧ F.stk.length ≤ p ∧ F.rows.length ≤ 2 * p + 1 ∧ Wk R₂ (RD L gs qp gb x l p b F vg vi vn vm vnp vch R)) Ψ)) := fun vi => by
    refine Ex.cons ?_
    refine Ex1.assign ?_ ?_
    rotate_left
    · kernel_rfl
    walk_at "nm"
    walk_at "sto"
    refine Ex.cons ?_
    refine Ex1.ite ?_
    refine Ts.cmp ?_
    walk_at "nm"
    walk_at "nm"
    refine Cmp.geI ?_
    refine ite_b (fun hge => ?_) fun hge => ?_
    · have hge := of_decide_eq_true hge
      have hpn : p + n = b := by lia
      refine Ex.cons ?_
      refine Ex1.brk ?_
      have : rest' = [] := by
        cases rest' with
        | nil => rfl
        | cons _ _ => have := hcut'.lt (by simp); lia
      subst this
      have hF' : (⟨F.stk, F.rows, newer F.ch (lastOf l p n)⟩ : FS) = Fin := hfold.symm.trans hF
      rw [hF', hpn]
      exact h _ _ _ _ _ .rest
    · have hge := of_decide_eq_false hge
      refine Ex.nil ?_
      refine Ex.nil ?_
      exact go2 (p' := p + n) (by lia) (by lia) hcut' (hfold.symm.trans hF) (by show F.stk.length ≤ _; lia) (by show F.rows.length ≤ _; lia) (hstop (by lia))
  refine blanks (n := n) hl (by lia) (fun hall => ?_) fun i hi hbi hall => ?_
  · refine Ex.cons ?_
    refine Ex1.ite ?_
    refine Ts.cmp ?_
    walk_at "nm"
    walk_at "nm"
    refine Cmp.geI ?_
    refine ite_f (decide_eq_false (by lia)) (Ex.nil ?_)
    have := tail (.int ((p : Int) - 1))
    rw [lastOf_none hall, newer_nil] at this
    exact this
  · refine Ex.cons ?_
    refine Ex1.ite ?_
    refine Ts.cmp ?_
    walk_at "nm"
    walk_at "nm"
    refine Cmp.geI ?_
    refine ite_t (decide_eq_true (by lia)) ?_
    obtain ⟨c, hc⟩ : ∃ c, l[p + i]? = some c := ⟨_, List.getElem?_eq_getElem (by lia)⟩
    refine Ex.cons ?_
    refine Ex1.assign ?_ ?_
    rotate_left
    · kernel_rfl
    refine Ev.chrN hl hc (by walk_at "mem") (by walk_at "mem") (by walk_at "mem") ?_
    walk_at "sto"
    refine Ex.nil ?_
    have := tail (.int ((p + i : Nat) : Int))
    rw [lastOf_at hi hbi hall, chr_at hc] at this
    exact this
end
noncomputable def tgt : Stmt → Expr
  | .Assign [t] _ _ => t
  | _ => default
noncomputable def opV : Option Nat → V
  | some k => .int k
  | none => .none
noncomputable abbrev ext2 (u v : V) (a b : Nat) (F : FS) : List (Str × V) :=
  [("goodlines", u), ("continuation", v), ("stmt_start", .int a), ("stmt_end", .int b), ("lastch", .str (S F.ch)), ("lastopenbracketpos", opV F.stk.getLast?), ("stmt_bracketing", .tup (mksV F.rows))]
noncomputable abbrev F0 (a : Nat) : FS := ⟨[], [(a, 0)], []⟩
section
variable {l : List Nat}
theorem fold_len (ms : List (Nat × Nat)) : ∀ F : FS, (ms.foldl (fs1 l) F).stk.length ≤ F.stk.length + ms.length ∧ (ms.foldl (fs1 l) F).rows.length ≤ F.rows.length + 2 * ms.length := by
  induction ms with
  | nil => exact fun F => ⟨Nat.le_refl _, Nat.le_refl _⟩
  | cons m ms ih =>
    intro F
    rw [List.foldl_cons, List.length_cons]
    obtain ⟨h1, h2⟩ := ih (fs1 l F m)
    have a := stk1_len (l := l) F.stk m
    have b := rows1_len (l := l) F.stk.length m
    have h1' : (ms.foldl (fs1 l) (fs1 l F m)).stk.length ≤ (stk1 l F.stk m).length + ms.length := h1
    have h2' : (ms.foldl (fs1 l) (fs1 l F m)).rows.length ≤ (F.rows ++ rows1 l F.stk.length m).length + 2 * ms.length := h2
    rw [List.length_append] at h2'
    lia
end
section
variable {C : Cx} {A : Around} {env : Env} {R : Led} {mg mb : Str → Option Value} {K : Frag} {Φ : V → Led → Prop} {Ψ : Fl → Led → Prop} {pm cd : Value} {x dx c f f2 fI fC fS tb L g gs qp gb : Addr} {pos : Pos} {l : List Nat} {F : FS} {a b : Nat} {iw tw u v vg vi vn vm vnp vch : V} {T : List (Nat × Nat)}
theorem Kit2.set (Z : Kit C mg mb K c fI fC fS tb) (Z2 : Kit2 C mg K c f2) {o : Expr} {name : Str} {a dx : Addr} {m m' : List (Str × V)} {v : V} {R' : Led} {Φ : Led → Prop}
    (hn : name ∈ (["stmt_start", "stmt_end", "lastch", "lastopenbracketpos", "stmt_bracketing"] : List Str))
    (h : Ev C A env o R fun ov R₁ => ov = .ref a ∧ (a, .obj (instObj c dx)) ∈ R₁ ∧ (dx, .att m) ∈ R₁ ∧ PutA m name v m' ∧ Upd R₁ dx (.att m) (.att m') R' ∧ Φ R') (hz : m'.length ≤ 1000 := by exact Nat.le_of_ble_eq_true rfl) : As C A env (.Attribute o name pos) v R Φ :=
  As.attr Z.P.X h Z.P.sa Z.P.ov (Z2.at_ _ hn).2.2 Z.P.hd hz
theorem two_end (Z : Kit C mg mb K c fI fC fS tb) (Z2 : Kit2 C mg K c f2) (hh : A.handled = none) (hl : l.length ≤ 190) (hb : b ≤ l.length) (hab : a ≤ b) (hcut : Cut l a T b)
    (h : Φ .none ((x, .obj (instObj c dx)) :: (dx, .att (attS iw tw l 2 (ext2 u v a b (T.foldl (fs1 l) (F0 a))))) :: R)) :
    Ex C A (fenv (fdOf "Parser._study2" pm cd sTwo) f L) ((fnB sTwo).drop 8) ((L, .ns (M2 (.ref x) (.str (S l)) vg vi (.int a) (.int b) vn .any .any .any .any .any .any .any)) :: (x, .obj (instObj c dx)) :: (dx, .att (attS iw tw l 2 [("goodlines", u), ("continuation", v)])) :: R) (Back Φ) := by
  refine Ex.cons ?_
  refine Ex1.assignT ?_ ?_ ?_
  rotate_left
  · kernel_rfl
  · kernel_rfl
  refine Ev.tuple ?_
  refine EvL.cons ?_
  walk_at "nm"
  refine EvL.cons ?_
  walk_at "nm"
  refine EvL.nil ?_
  refine As.tupleG ?_ hh
  refine Z2.set (a := x) (dx := dx) (m' := attS iw tw l 2 [("goodlines", u), ("continuation", v), ("stmt_start", .int a)]) Z (by decide) (Ev.loc (by walk_at "mem") (by walk_at "mem") ⟨rfl, by walk_at "mem", by walk_at "mem", .new (m := attS iw tw l 2 [("goodlines", u), ("continuation", v)]) (show ("stmt_start" : Str) ∉ (["indentwidth", "tabwidth", "code", "study_level", "goodlines", "continuation"] : List Str) by decide), by walk_at "upd", ?_⟩)
  refine Z2.set (a := x) (dx := dx) (m' := attS iw tw l 2 [("goodlines", u), ("continuation", v), ("stmt_start", .int a), ("stmt_end", .int b)]) Z (by decide) (Ev.loc (by walk_at "mem") (by walk_at "mem") ⟨rfl, by walk_at "mem", by walk_at "mem", .new (m := attS iw tw l 2 [("goodlines", u), ("continuation", v), ("stmt_start", .int a)]) (show ("stmt_end" : Str) ∉ (["indentwidth", "tabwidth", "code", "study_level", "goodlines", "continuation", "stmt_start"] : List Str) by decide), by walk_at "upd", ?_⟩)
  refine Ex.cons ?_
  refine Ex1.assign ?_ ?_
  rotate_left
  · kernel_rfl
  refine Ev.strS (a := []) (by decide) ?_
  walk_at "sto"
  refine Ex.cons ?_
  refine Ex1.assign ?_ ?_
  rotate_left
  · kernel_rfl
  refine Ev.listM ?_
  refine EvL.nil ?_
  intro gs
  walk_at "sto"
  refine Ex.cons ?_
  refine Ex1.assign ?_ ?_
  rotate_left
  · kernel_rfl
  refine Ev.boundApp (a := gs) (Ev.loc (by walk_at "mem") (by walk_at "mem") ⟨rfl, by walk_at "mem", fun qp => ?_⟩)
  walk_at "sto"
  refine Ex.cons ?_
  refine Ex1.assign ?_ ?_
  rotate_left
  · kernel_rfl
  refine Ev.listM ?_
  refine EvL.cons ?_
  refine Ev.tuple ?_
  refine EvL.cons ?_
  walk_at "nm"
  refine EvL.cons ?_
  refine Ev.int ?_
  refine EvL.nil ?_
  refine EvL.nil ?_
  intro gb
  walk_at "sto"
  refine Ex.cons ?_
  refine (down_loop (a := a) (b := b) (F := F0 a) (rest := T) (gs := gs) (qp := qp) (gb := gb) Z.G Z.len Z2 hl hb hab hcut rfl (Nat.zero_le _) (by show 1 ≤ _; lia) ?_ : Ex1 C A _ sTD (RD L gs qp gb x l a b (F0 a) vg vi vn .any .any .any _) _)
  intro vi vm vnp vch R₂ wk
  have hTl := hcut.len
  obtain ⟨q1, q2⟩ := fold_len (l := l) T (F0 a)
  have q1 : (T.foldl (fs1 l) (F0 a)).stk.length ≤ 0 + T.length := q1
  have q2 : (T.foldl (fs1 l) (F0 a)).rows.length ≤ 1 + 2 * T.length := q2
  generalize T.foldl (fs1 l) (F0 a) = F at wk h q1 q2
  refine Ex.wk wk ?_
  refine Ex.cons ?_
  refine Ex1.assignA ?_
  walk_at "nm"
  refine Z2.set (a := x) (dx := dx) (m' := attS iw tw l 2 [("goodlines", u), ("continuation", v), ("stmt_start", .int a), ("stmt_end", .int b), ("lastch", .str (S F.ch))]) Z (by decide) (Ev.loc (by walk_at "mem") (by walk_at "mem") ⟨rfl, by walk_at "mem", by walk_at "mem", .new (m := attS iw tw l 2 [("goodlines", u), ("continuation", v), ("stmt_start", .int a), ("stmt_end", .int b)]) (show ("lastch" : Str) ∉ (["indentwidth", "tabwidth", "code", "study_level", "goodlines", "continuation", "stmt_start", "stmt_end"] : List Str) by decide), by walk_at "upd", ?_⟩)
  refine Ex.cons ?_
  refine Ex1.assignA ?_
  refine Ev.ite ?_
  refine Ts.val ?_
  walk_at "nm"
  refine Tr.lst (LstOf.at (by walk_at "mem")) (by rw [List.length_map]; lia) ?_
  have fin : As C A (fenv (fdOf "Parser._study2" pm cd sTwo) f L) (tgt (stAt 15 (fnB sTwo))) (opV F.stk.getLast?) ((gb, .list (mksV F.rows)) :: (qp, .obj (appendOf gs)) :: (gs, .list (nV F.stk)) :: (L, .ns (M2 (.ref x) (.str (S l)) vg vi (.int b) (.int b) vn (.str (S F.ch)) (.ref gs) (.ref qp) (.ref gb) vm vnp vch)) :: (x, .obj (instObj c dx)) :: (dx, .att (attS iw tw l 2 [("goodlines", u), ("continuation", v), ("stmt_start", .int a), ("stmt_end", .int b), ("lastch", .str (S F.ch))])) :: R)
      (fun R₂ => Ex C A (fenv (fdOf "Parser._study2" pm cd sTwo) f L) ((fnB sTwo).drop 16) R₂ (Back Φ)) := by
    refine Z2.set (a := x) (dx := dx) (m' := attS iw tw l 2 [("goodlines", u), ("continuation", v), ("stmt_start", .int a), ("stmt_end", .int b), ("lastch", .str (S F.ch)), ("lastopenbracketpos", opV F.stk.getLast?)]) Z (by decide) (Ev.loc (by walk_at "mem") (by walk_at "mem") ⟨rfl, by walk_at "mem", by walk_at "mem", .new (m := attS iw tw l 2 [("goodlines", u), ("continuation", v), ("stmt_start", .int a), ("stmt_end", .int b), ("lastch", .str (S F.ch))]) (show ("lastopenbracketpos" : Str) ∉ (["indentwidth", "tabwidth", "code", "study_level", "goodlines", "continuation", "stmt_start", "stmt_end", "lastch"] : List Str) by decide), by walk_at "upd", ?_⟩)
    refine Ex.cons ?_
    refine Ex1.assignA ?_
    refine Ev.callN ?_
    refine Ev.blt Z.G Z2.tuple (u := .type "tuple") (by kernel_rfl) (fun _ => .ty _) ?_
    refine EvL.cons ?_
    walk_at "nm"
    refine EvL.nil ⟨Kpr.ty, ?_⟩
    refine Cl.tupL (LstOf.at (by walk_at "mem")) (by rw [List.length_map]; lia) ?_
    refine Z2.set (a := x) (dx := dx) (m' := attS iw tw l 2 (ext2 u v a b F)) Z (by decide) (Ev.loc (by walk_at "mem") (by walk_at "mem") ⟨rfl, by walk_at "mem", by walk_at "mem", .new (m := attS iw tw l 2 [("goodlines", u), ("continuation", v), ("stmt_start", .int a), ("stmt_end", .int b), ("lastch", .str (S F.ch)), ("lastopenbracketpos", opV F.stk.getLast?)]) (show ("stmt_bracketing" : Str) ∉ (["indentwidth", "tabwidth", "code", "study_level", "goodlines", "continuation", "stmt_start", "stmt_end", "lastch", "lastopenbracketpos"] : List Str) by decide), by walk_at "upd", ?_⟩)
    refine Ex.nil ?_
    exact ⟨_, .drop (.drop (.drop (.drop .rest))), h⟩
  cases hs : F.stk.getLast? with
  | none =>
    rw [hs] at fin
    have hnil : F.stk = [] := List.getLast?_eq_none_iff.mp hs
    refine ite_f (by rw [hnil]; rfl) ?_
    refine Ev.none ?_
    exact fin
  | some k =>
    rw [hs] at fin
    have hne : F.stk ≠ [] := fun e => by rw [e] at hs; cases hs
    have hp := List.length_pos_iff.mpr hne
    refine ite_t (by rw [Bool.not_eq_true', List.isEmpty_eq_false_iff]; intro e; exact hne (List.map_eq_nil_iff.mp e)) ?_
    refine Ev.item ?_
    walk_at "nm"
    refine Ev.neg ?_
    refine Ev.int ?_
    refine ⟨_, rfl, ?_⟩
    refine Itm.lstN (w := .int k) (LstOf.at (by walk_at "mem")) (by decide) (by rw [List.length_map]; lia) (by
      rw [List.length_map, show ((-1 : Int) + (F.stk.length : Int)).toNat = F.stk.length - 1 by lia]
      exact nV_at (by rw [← List.getLast?_eq_getElem?]; exact hs)) ?_ (by decide)
    exact fin
end
section
variable {C : Cx} {A : Around} {env : Env} {R : Led} {mg mb : Str → Option Value} {K : Frag} {Φ : V → Led → Prop} {Ψ : Fl → Led → Prop} {x dx c f f2 fI fC fS tb : Addr} {pos : Pos} {l : List Nat} {iw tw : V} {ms : List (Nat × Nat)}
theorem two_call (Z : KitM C mg mb K c fI fC fS tb) (Z2 : Kit2 C mg K c f2) (hh : A.handled = none) (hd : A.depth + 2 < recursionLimit) (hlast : l.getLast? = some 10) (hl : l.length ≤ 190) (hcut : Cut l 0 ms l.length)
    (h : ∀ u v a b, Cut l a (ms.foldl (ls1 l) ⟨[], [], 0⟩).last b → ((ms.foldl (ls1 l) ⟨[], [], 0⟩).last = [] → a = 0 ∧ b = 0) →
      Φ .none ((x, .obj (instObj c dx)) :: (dx, .att (attS iw tw l 2 (ext2 u v a b ((ms.foldl (ls1 l) ⟨[], [], 0⟩).last.foldl (fs1 l) (F0 a))))) :: R)) :
    Cl C A (.ref f2) [.ref x] ((x, .obj (instObj c dx)) :: (dx, .att (attS iw tw l 0 [])) :: R) Φ := by
  obtain ⟨pm, cd, FT⟩ := Z2.two
  refine ClC.cl (FT.call (r := ["p", "ch", "code", "q", "lastch", "stack", "bracketing", "i", "newp", "m", "push_stack", "nothing", "goodlines"]) Z.Z.G (.cons (.rest (.rest (.rest (.rest (.rest (.rest (.rest (.rest (.rest (.rest (.rest (.rest (.rest .nil)))))))))))))) (by decide) (by lia) (by decide) fun L => ?_)
  have hh' : (A.deeper (fenv (fdOf "Parser._study2" pm cd sTwo) f2 L)).handled = none := hh
  have hd' : (A.deeper (fenv (fdOf "Parser._study2" pm cd sTwo) f2 L)).depth + 1 < recursionLimit := hd
  generalize A.deeper (fenv (fdOf "Parser._study2" pm cd sTwo) f2 L) = A' at hh' hd' ⊢
  have hne : l ≠ [] := fun e => by subst e; cases hlast
  obtain ⟨bs, HR, hend, hgood⟩ := rows_all hne hlast hcut
  generalize hs : ms.foldl (ls1 l) ⟨[], [], 0⟩ = s at HR h
  have hbp := HR.pos
  have hbl : bs.length ≤ 1000 := by
    have := congrArg List.length hgood
    rw [List.length_map] at this
    rw [← this]
    have hg : (goodOf (read l)).length ≤ (read l).2.good.length + 1 := by
      unfold goodOf
      split
      · lia
      · rw [List.length_append]; exact Nat.le_refl _
    have hr := run_len (l.map tr) (.code false) init
    rw [List.length_map] at hr
    have e1 : init.good.length = 1 := rfl
    have hr' : (read l).2.good.length ≤ init.good.length + l.length := hr
    lia
  show Ex C A' _ _ ((L, .ns (M2 (.ref x) .any .any .any .any .any .any .any .any .any .any .any .any .any)) :: (x, .obj (instObj c dx)) :: (dx, .att (attS iw tw l 0 [])) :: R) _
  refine Ex.cons ?_
  refine Ex1.ite ?_
  refine Ts.cmp ?_
  refine Z.Z.P.get (a := x) (dx := dx) (by decide) (Ev.loc (by walk_at "mem") (by walk_at "mem") ⟨rfl, by walk_at "mem", by walk_at "mem", by walk_at "mem", ?_⟩)
  refine Ev.int ?_
  refine Cmp.geI (ite_f (by decide) (Ex.nil ?_))
  show Ex C A' _ _ _ _
  refine Ex.wk (.perm perm3 .rest) ?_
  refine Ex.cons ?_
  refine Ex1.expr ?_
  refine Ev.methI (a := x) (dx := dx) Z.Z.P.X (Ev.loc (by walk_at "mem") (by walk_at "mem") ⟨rfl, by walk_at "mem", by walk_at "mem", by exact (show ("_study1" : Str) ∉ (["indentwidth", "tabwidth", "code", "study_level"] : List Str) by decide), ?_⟩) Z.gS Z.cS Z.tS Z.kS
  refine EvL.nil ?_
  refine Z.Z.studied hd' hh' (.inr hlast) (by lia) (.inl rfl) fun g => ⟨rfl, ?_⟩
  rw [hgood]
  generalize hu : V.int (kindOf (read l)) = kd
  refine Ex.wk (.same (.perm perm3' .rest)) ?_
  show Ex C A' _ _ ((g, .list (nV (bs.map (nlc l)))) :: (L, .ns (M2 (.ref x) .any .any .any .any .any .any .any .any .any .any .any .any .any)) :: (x, .obj (instObj c dx)) :: (dx, .att (attS iw tw l 1 [("goodlines", .ref g), ("continuation", kd)])) :: R) _
  refine Ex.cons ?_
  refine Ex1.assignA ?_
  refine Ev.int ?_
  refine Z.Z.P.set (a := x) (dx := dx) (m' := attS iw tw l 2 [("goodlines", .ref g), ("continuation", kd)]) (by decide) (Ev.loc (by walk_at "mem") (by walk_at "mem") ⟨rfl, by walk_at "mem", by walk_at "mem", .old (.there (.there (.there .here))), by walk_at "upd", ?_⟩)
  refine Ex.cons ?_
  refine Ex1.assignS hh' ?_
  refine Ev.tuple ?_
  refine EvL.cons ?_
  refine Z.Z.P.get (a := x) (dx := dx) (by decide) (Ev.loc (by walk_at "mem") (by walk_at "mem") ⟨rfl, by walk_at "mem", by walk_at "mem", by walk_at "mem", ?_⟩)
  refine EvL.cons ?_
  refine Z.Z.P.get (a := x) (dx := dx) (by decide) (Ev.loc (by walk_at "mem") (by walk_at "mem") ⟨rfl, by walk_at "mem", by walk_at "mem", by walk_at "mem", ?_⟩)
  refine EvL.nil ⟨_, rfl, rfl, ?_⟩
  walk_at "sto"
  walk_at "sto"
  refine Ex.cons ?_
  refine Ex1.assign ?_ ?_
  rotate_left
  · kernel_rfl
  refine Ev.bin ?_
  refine Ev.callN ?_
  refine Ev.blt Z.Z.G Z.Z.len boot_len (fun _ => .bi _) ?_
  refine EvL.cons ?_
  walk_at "nm"
  refine EvL.nil ⟨Kpr.bi, ?_⟩
  refine Cl.lenL (LstOf.at (by walk_at "mem")) (by rw [List.length_map, List.length_map]; lia) ?_
  rw [List.length_map, List.length_map]
  refine Ev.int ?_
  refine Op2.subI ?_
  rw [show ((bs.length : Int) - 1) = ((bs.length - 1 : Nat) : Int) by lia]
  walk_at "sto"
  refine Ex.cons ?_
  refine Ex1.assign ?_ ?_
  rotate_left
  · kernel_rfl
  refine Ev.lenT Z.Z.G Z.Z.len hl (by walk_at "mem") (by walk_at "mem") ?_
  walk_at "sto"
  refine Ex.cons ?_
  refine (up_loop (s := s) Z.Z.G Z2 hh' hlast hl HR hend hbl ?_ ?_ : Ex1 C A' _ sTW _ _)
  · intro i a b vn ha hb hne hc
    refine Ex.cons ?_
    refine Ex1.ite ?_
    refine Ts.cmp ?_
    walk_at "nm"
    refine Ev.int ?_
    refine Cmp.eqI ?_
    refine ite_f (by rw [beq_eq_false_iff_ne]; lia) (Ex.nil ?_)
    refine Ex.wk (.drop .rest) ?_
    refine two_end (T := s.last) Z.Z Z2 hh' hl (hc.leN ?_) hc.le hc ?_
    · have hib : i + 1 < bs.length := (List.getElem?_eq_some_iff.mp hb).1
      exact Nat.le_of_lt (HR.mono ha hend (by lia))
    exact h (.ref g) kd a b hc fun e => absurd e hne
  · intro vq vn hnil
    refine Ex.cons ?_
    refine Ex1.ite ?_
    refine Ts.cmp ?_
    walk_at "nm"
    refine Ev.int ?_
    refine Cmp.eqI ?_
    refine ite_t (by decide) ?_
    refine Ex.cons ?_
    refine Ex1.assert ?_
    refine Ts.cmp ?_
    walk_at "nm"
    refine Ev.int ?_
    refine Cmp.eqI ⟨by decide, ?_⟩
    refine Ex.cons ?_
    refine Ex1.assign ?_ ?_
    rotate_left
    · kernel_rfl
    walk_at "nm"
    walk_at "sto"
    refine Ex.nil ?_
    refine Ex.wk (.drop .rest) ?_
    have hc : Cut l 0 s.last 0 := by rw [hnil]; exact .nil
    refine two_end (a := 0) (b := 0) (T := s.last) Z.Z Z2 hh' hl (Nat.zero_le _) (Nat.le_refl _) hc ?_
    exact h (.ref g) kd 0 0 hc fun _ => ⟨rfl, rfl⟩
end
noncomputable def mkD (m : Nat × Nat) : PyData := .tuple [.int m.1, .int m.2]
noncomputable def opD : Option Nat → PyData
  | some k => .int k
  | none => .none
theorem mks_data : ∀ ms : List (Nat × Nat), V.datas (mksV ms) = some (ms.map mkD)
  | [] => rfl
  | m :: ms => by
    show V.datas (mkV m :: mksV ms) = _
    rw [V.datas, mks_data ms]; rfl
theorem mks_lay : ∀ ms : List (Nat × Nat), PyData.canLayAll0 (ms.map mkD) = true
  | [] => rfl
  | m :: ms => by
    show (PyData.canLay0 (mkD m) && PyData.canLayAll0 (ms.map mkD)) = true
    rw [mks_lay ms]; rfl
theorem mks_dep : ∀ ms : List (Nat × Nat), PyData.depthAll (ms.map mkD) ≤ 1
  | [] => Nat.zero_le _
  | m :: ms => by
    show max (PyData.depth (mkD m)) (PyData.depthAll (ms.map mkD)) ≤ 1
    exact Nat.max_le.mpr ⟨Nat.le_refl 1, mks_dep ms⟩
noncomputable abbrev toldV (a b : Nat) (ch : List Nat) (op : Option Nat) (rs : List (Nat × Nat)) : V := .tup [.int a, .int b, .str (S ch), opV op, .tup (mksV rs)]
noncomputable abbrev toldD (a b : Nat) (ch : List Nat) (op : Option Nat) (rs : List (Nat × Nat)) : PyData := .tuple [.int a, .int b, .str (S ch), opD op, .tuple (rs.map mkD)]
theorem op_data (op : Option Nat) : (opV op).data = some (opD op) := by cases op <;> rfl
theorem told_data (a b : Nat) (ch : List Nat) (op : Option Nat) (rs : List (Nat × Nat)) : (toldV a b ch op rs).data = some (toldD a b ch op rs) := by
  simp only [V.data, V.datas, mks_data, op_data]; rfl
theorem op_lay (op : Option Nat) : (opD op).canLay0 = true ∧ (opD op).depth = 0 := by cases op <;> exact ⟨rfl, rfl⟩
theorem told_shaped (a b : Nat) (ch : List Nat) (op : Option Nat) (rs : List (Nat × Nat)) (hch : ∀ c ∈ ch, c < 128) : SeqAt.shaped (toldD a b ch op rs) = true := by
  have h1 : PyData.strOk (S ch) = true := by
    unfold PyData.strOk S
    simp only [List.all_toArray, List.all_eq_true, decide_eq_true_eq]
    intro c hc
    have := hch c hc
    lia
  show ((true && (true && (PyData.strOk (S ch) && (PyData.canLay0 (opD op) && (PyData.canLayAll0 (rs.map mkD) && true))))) && decide (max 0 (max 0 (max 0 (max (PyData.depth (opD op)) (max (PyData.depthAll (rs.map mkD) + 1) 0)))) + 1 ≤ 64)) = true
  rw [h1, (op_lay op).1, (op_lay op).2, mks_lay]
  have := mks_dep rs
  simp only [Bool.and_self, Bool.true_and, decide_eq_true_eq]
  lia
theorem list_shaped (ms : List (Nat × Nat)) : SeqAt.shaped (.list (ms.map mkD)) = true := by
  show (PyData.canLayAll0 (ms.map mkD) && decide (PyData.depthAll (ms.map mkD) + 1 ≤ 64)) = true
  rw [mks_lay]
  have := mks_dep ms
  simp only [Bool.true_and, decide_eq_true_eq]
  lia
section
variable {l : List Nat} {ms T : List (Nat × Nat)} {a b a' b' : Nat}
theorem Cut.first (h : Cut l a T b) (hn : T ≠ []) : ∃ m, T[0]? = some m ∧ m.1 = a := by
  cases h with
  | nil => exact absurd rfl hn
  | cons _ _ => exact ⟨_, rfl, rfl⟩
theorem Cut.last (h : Cut l a T b) (hn : T ≠ []) : ∃ m, T[T.length - 1]? = some m ∧ m.2 = b := by
  induction h with
  | nil => exact absurd rfl hn
  | @cons k e b ms h1 h2 ih =>
    cases hm : ms with
    | nil => subst hm; cases h2; exact ⟨_, rfl, rfl⟩
    | cons m ms' =>
      obtain ⟨m', e1, e2⟩ := ih (by rw [hm]; simp)
      refine ⟨m', ?_, e2⟩
      rw [← hm, List.length_cons]
      have : ms.length ≠ 0 := by rw [hm]; simp
      rw [show ms.length + 1 - 1 = (ms.length - 1) + 1 by lia, List.getElem?_cons_succ]
      exact e1
theorem Cut.same (h : Cut l a T b) (h' : Cut l a' T b') (hn : T ≠ []) : a = a' ∧ b = b' := by
  obtain ⟨m, e1, e2⟩ := h.first hn
  obtain ⟨m', e1', e2'⟩ := h'.first hn
  obtain ⟨n, f1, f2⟩ := h.last hn
  obtain ⟨n', f1', f2'⟩ := h'.last hn
  rw [e1] at e1'; rw [f1] at f1'
  cases e1'; cases f1'
  exact ⟨e2.symm.trans e2', f2.symm.trans f2'⟩
theorem Cut.mem (h : Cut l a T b) : ∀ m ∈ T, Mk l m.1 m.2 := by
  induction h with
  | nil => exact fun m hm => nomatch hm
  | cons h1 _ ih =>
    intro m hm
    rcases List.mem_cons.mp hm with rfl | hm
    · exact h1
    · exact ih m hm
theorem last_cut (hlast : l.getLast? = some 10) (h : Cut l 0 ms l.length) : ∃ a b, Cut l a (ms.foldl (ls1 l) ⟨[], [], 0⟩).last b ∧ b ≤ l.length ∧ ((ms.foldl (ls1 l) ⟨[], [], 0⟩).last = [] → a = 0 ∧ b = 0) := by
  have hne : l ≠ [] := fun e => by subst e; cases hlast
  obtain ⟨bs, HR, hend, _⟩ := rows_all hne hlast h
  rcases HR.last with ⟨h0, _⟩ | ⟨i, a, b, h1, h2, h3, h4, _, _⟩
  · exact ⟨0, 0, by rw [h0]; exact .nil, Nat.zero_le _, fun _ => ⟨rfl, rfl⟩⟩
  · refine ⟨a, b, h4, ?_, fun e => absurd e h3⟩
    have hib : i + 1 < bs.length := (List.getElem?_eq_some_iff.mp h2).1
    rcases Nat.lt_or_ge (i + 1) (bs.length - 1) with q | q
    · exact Nat.le_of_lt (HR.mono h2 hend q)
    · rw [show i + 1 = bs.length - 1 by lia, hend] at h2; cases h2; exact Nat.le_refl _
theorem ch_small (hl : ∀ c ∈ l, c < 128) : ∀ (T : List (Nat × Nat)) (F : FS), (∀ c ∈ F.ch, c < 128) → ∀ c ∈ (T.foldl (fs1 l) F).ch, c < 128 := by
  have hchr : ∀ k, chr l k < 128 := fun k => by
    unfold chr
    rw [List.getD_eq_getElem?_getD]
    cases h : l[k]? with
    | none => decide
    | some c => exact hl c (List.mem_of_getElem? h)
  intro T
  induction T with
  | nil => exact fun F h => h
  | cons m T ih =>
    intro F h
    rw [List.foldl_cons]
    refine ih _ ?_
    show ∀ c ∈ newer F.ch (chOf l m.1), c < 128
    unfold newer
    split
    · exact h
    · unfold chOf
      dsimp only
      split
      · exact fun c hc => nomatch hc
      · split
        · split
          · exact fun c hc => nomatch hc
          · intro c hc
            rcases List.mem_cons.mp hc with rfl | hc
            · decide
            · rw [List.mem_singleton.mp hc]; exact hchr _
        · intro c hc
          rw [List.mem_singleton.mp hc]; exact hchr _
theorem qh_mem (c : Nat) : decide (c ∈ [34, 39, 35]) = decide (c = 34 ∨ c = 39 ∨ c = 35) := by rw [decide_eq_decide]; simp
theorem no_mem (c : Nat) : decide (c ∈ [32, 9, 10, 35]) = decide (c = 32 ∨ c = 9 ∨ c = 10 ∨ c = 35) := by rw [decide_eq_decide]; simp
end
noncomputable abbrev M12 (a b c d e f g h i j k m n o : V) : List (Str × V) := [("script", a), ("k", h), ("text", b), ("e", i), ("rows", f), ("depth", g), ("lastch", j), ("closed", m), ("opened", k), ("marks", c), ("start", d), ("end", e), ("parser", n), ("told", o)]
section
variable {C : Cx} {A : Around} {env : Env} {R : Led} {mg mb : Str → Option Value} {K : Frag} {Φ : V → Led → Prop} {Ψ : Fl → Led → Prop} {pm cd : Value} {x dx c f L gr it : Addr} {pos : Pos} {l : List Nat} {F : FS} {B : BS} {k e a b : Nat} {v0 v1 v2 v3 v4 v5 v6 v7 v8 v9 : V} {o : Obj} {T : List (Nat × Nat)}
theorem Cmp.notInC {d : Nat} {Φ : Bool → Led → Prop} (h : Φ (!decide (d ∈ l)) R) : Cmp C A .NotIn (.str (S [d])) (.str (S l)) R Φ := fun z s u v H t d e => by
  obtain ⟨_, rfl⟩ := d.strI; obtain ⟨_, rfl⟩ := e.strI
  refine notIn_str (bp H ?_)
  rw [show S [_] = ⟨#[_]⟩ from rfl, StrLaws.found_one, S_cps]; exact h
theorem fwd (G : GX C mg mb) (hmax : mg "max" = none) (hh : A.handled = none) (hl : l.length ≤ 190) (hm : Mk l k e) (hs1 : F.stk.length ≤ 1000) (hs2 : F.rows.length ≤ 1000)
    (h : Ψ .next ((it, .obj o) :: (gr, .list (mksV (fs1 l F (k, e)).rows)) :: (L, .ns (M12 v0 (.str (S l)) v1 v2 v3 (.ref gr) (.int (fs1 l F (k, e)).stk.length) (.int (k : Nat)) (.int (e : Nat)) v4 v5 v6 v7 v8)) :: R)) :
    Ex C A (fenv (fdOf "law" pm cd sLaw) f L) (forB (stAt 4 (fnB sLaw))) ((it, .obj o) :: (gr, .list (mksV F.rows)) :: (L, .ns (M12 v0 (.str (S l)) v1 v2 v3 (.ref gr) (.int F.stk.length) (.int (k : Nat)) (.int (e : Nat)) v4 v5 v6 v7 v8)) :: R) Ψ := by
  have hkl : k < l.length := by have := hm.lt; have := hm.leN; lia
  obtain ⟨c, hc⟩ : ∃ c, l[k]? = some c := ⟨_, List.getElem?_eq_getElem hkl⟩
  refine Ex.cons ?_
  refine Ex1.ite ?_
  refine Ts.cmp ?_
  refine Ev.chrN hl hc (by walk_at "mem") (by walk_at "mem") (by walk_at "mem") ?_
  refine Ev.strS (a := [40, 91, 123]) (by decide) ?_
  refine Cmp.inB (op_mem _) ?_
  refine ite_b (fun h1 => ?_) fun h1 => ?_
  · rw [fs_op hc h1] at h
    refine Ex.cons ?_
    refine Ex1.assign ?_ ?_
    rotate_left
    · kernel_rfl
    refine Ev.bin ?_
    walk_at "nm"
    refine Ev.int ?_
    refine Op2.addI ?_
    walk_at "sto"
    refine Ex.cons ?_
    refine Ex1.appPair (by walk_at "mem") (by walk_at "mem") (by walk_at "mem") ?_
    walk_at "nm"
    walk_at "nm"
    refine ⟨_, _, by walk_at "upd", by rw [List.length_map]; lia, ?_⟩
    refine Ex.nil (Ex.nil ?_)
    unfold mksV at h
    rw [List.length_append, List.map_append] at h
    exact h
  have h1' : ¬ (isOp c = true) := by rw [h1]; decide
  refine Ex.cons ?_
  refine Ex1.ite ?_
  refine Ts.cmp ?_
  refine Ev.chrN hl hc (by walk_at "mem") (by walk_at "mem") (by walk_at "mem") ?_
  refine Ev.strS (a := [41, 93, 125]) (by decide) ?_
  refine Cmp.inB (cl_mem _) ?_
  refine ite_b (fun h2 => ?_) fun h2 => ?_
  · rw [fs_cl hc h1 h2] at h
    refine Ex.cons ?_
    refine Ex1.assign ?_ ?_
    rotate_left
    · kernel_rfl
    refine Ev.callN ?_
    refine Ev.blt G hmax (u := .builtin "max") (by kernel_rfl) (fun _ => .bi _) ?_
    refine EvL.cons ?_
    refine Ev.bin ?_
    walk_at "nm"
    refine Ev.int ?_
    refine Op2.subI ?_
    refine EvL.cons ?_
    refine Ev.int ?_
    refine EvL.nil ⟨Kpr.bi, ?_⟩
    refine Cl.maxI hh ?_
    rw [max_nat]
    walk_at "sto"
    refine Ex.cons ?_
    refine Ex1.appPair (by walk_at "mem") (by walk_at "mem") (by walk_at "mem") ?_
    walk_at "nm"
    walk_at "nm"
    refine ⟨_, _, by walk_at "upd", by rw [List.length_map]; lia, ?_⟩
    refine Ex.nil (Ex.nil (Ex.nil ?_))
    unfold mksV at h
    rw [List.length_dropLast, List.map_append] at h
    exact h
  refine Ex.cons ?_
  refine Ex1.ite ?_
  refine Ts.cmp ?_
  refine Ev.chrN hl hc (by walk_at "mem") (by walk_at "mem") (by walk_at "mem") ?_
  refine Ev.strS (a := [34, 39, 35]) (by decide) ?_
  refine Cmp.inB (qh_mem _) ?_
  refine ite_b (fun h3 => ?_) fun h3 => ?_
  · have h3 := of_decide_eq_true h3
    have hfs : (fs1 l F (k, e)).stk = F.stk ∧ (fs1 l F (k, e)).rows = F.rows ++ [(k, F.stk.length + 1)] ++ [(e, F.stk.length)] := by
      rcases h3 with h3 | h3 | h3
      · rw [fs_str hc (.inl h3)]; exact ⟨rfl, rfl⟩
      · rw [fs_str hc (.inr h3)]; exact ⟨rfl, rfl⟩
      · subst h3; rw [fs_hash hc]; exact ⟨rfl, rfl⟩
    rw [hfs.1, hfs.2] at h
    refine Ex.cons ?_
    refine Ex1.appPair (by walk_at "mem") (by walk_at "mem") (by walk_at "mem") ?_
    walk_at "nm"
    refine Ev.bin ?_
    walk_at "nm"
    refine Ev.int ?_
    refine Op2.addI ?_
    refine ⟨_, _, by walk_at "upd", by rw [List.length_map]; lia, ?_⟩
    refine Ex.cons ?_
    refine Ex1.appPair (by walk_at "mem") (by walk_at "mem") (by walk_at "mem") ?_
    walk_at "nm"
    walk_at "nm"
    refine ⟨_, _, by walk_at "upd", by rw [List.length_append, List.length_map]; show _ + 1 ≤ _; lia, ?_⟩
    refine Ex.nil (Ex.nil (Ex.nil (Ex.nil ?_)))
    unfold mksV at h
    rw [List.map_append, List.map_append] at h
    exact h
  · have h3 := of_decide_eq_false h3
    have hfs : (fs1 l F (k, e)).stk = F.stk ∧ (fs1 l F (k, e)).rows = F.rows := by
      unfold fs1 stk1 rows1
      dsimp only
      rw [chr_at hc, h1, h2, if_neg h3]
      exact ⟨rfl, List.append_nil _⟩
    rw [hfs.1, hfs.2] at h
    exact Ex.nil (Ex.nil (Ex.nil (Ex.nil h)))
end
section
variable {C : Cx} {A : Around} {env : Env} {R : Led} {mg mb : Str → Option Value} {K : Frag} {Φ : V → Led → Prop} {Ψ : Fl → Led → Prop} {pm cd : Value} {x dx c f L gr it : Addr} {pos : Pos} {l : List Nat} {F : FS} {B : BS} {k e a b : Nat} {v0 v1 v2 v3 v4 v5 v6 v7 v8 v9 : V} {o : Obj} {T : List (Nat × Nat)} {rs : List V}
theorem opV_any (op : Option Nat) : (opV op).isAny = false := by cases op <;> rfl
theorem bwd (hl : l.length ≤ 190) (hm : Mk l k e)
    (h : Ψ .next ((it, .obj o) :: (gr, .list rs) :: (L, .ns (M12 v0 (.str (S l)) v1 v2 v3 v4 v5 (.int (k : Nat)) (.int (e : Nat)) (.str (S (bs1 l B (k, e)).ch)) (opV (bs1 l B (k, e)).op) (.int (bs1 l B (k, e)).cl) v7 v8)) :: R)) :
    Ex C A (fenv (fdOf "law" pm cd sLaw) f L) (forB (stAt 6 (fnB sLaw))) ((it, .obj o) :: (gr, .list rs) :: (L, .ns (M12 v0 (.str (S l)) v1 v2 v3 v4 v5 (.int (k : Nat)) (.int (e : Nat)) (.str (S B.ch)) (opV B.op) (.int B.cl) v7 v8)) :: R) Ψ := by
  have hlt := hm.lt
  have hle := hm.leN
  have hkl : k < l.length := by lia
  obtain ⟨c, hc⟩ : ∃ c, l[k]? = some c := ⟨_, List.getElem?_eq_getElem hkl⟩
  have hch := chr_at hc
  have fin : Ex C A (fenv (fdOf "law" pm cd sLaw) f L) ((forB (stAt 6 (fnB sLaw))).drop 1) ((it, .obj o) :: (gr, .list rs) :: (L, .ns (M12 v0 (.str (S l)) v1 v2 v3 v4 v5 (.int (k : Nat)) (.int (e : Nat)) (.str (S (newer (chOf l k) B.ch))) (opV B.op) (.int B.cl) v7 v8)) :: R) Ψ := by
    have hb : bs1 l B (k, e) = ⟨newer (chOf l k) B.ch, if isOp c ∧ B.cl = 0 ∧ B.op = none then some k else B.op, if isCl c then B.cl + 1 else if isOp c then B.cl - 1 else B.cl⟩ := by
      unfold bs1; dsimp only; rw [hch]
    rw [hb] at h
    dsimp only at h
    refine Ex.cons ?_
    refine Ex1.ite ?_
    refine Ts.cmp ?_
    refine Ev.chrN hl hc (by walk_at "mem") (by walk_at "mem") (by walk_at "mem") ?_
    refine Ev.strS (a := [41, 93, 125]) (by decide) ?_
    refine Cmp.inB (cl_mem _) ?_
    refine ite_b (fun h1 => ?_) fun h1 => ?_
    · have h0 : ¬ (isOp c = true) := fun ho => by rw [op_cl ho] at h1; cases h1
      rw [if_neg (show ¬ (isOp c = true ∧ B.cl = 0 ∧ B.op = none) from fun q => h0 q.1), if_pos h1] at h
      refine Ex.cons ?_
      refine Ex1.assign ?_ ?_
      rotate_left
      · kernel_rfl
      refine Ev.bin ?_
      walk_at "nm"
      refine Ev.int ?_
      refine Op2.addI ?_
      walk_at "sto"
      exact Ex.nil (Ex.nil h)
    rw [h1, if_neg (show ¬ (false = true) by decide)] at h
    refine Ex.cons ?_
    refine Ex1.ite ?_
    refine Ts.cmp ?_
    refine Ev.chrN hl hc (by walk_at "mem") (by walk_at "mem") (by walk_at "mem") ?_
    refine Ev.strS (a := [40, 91, 123]) (by decide) ?_
    refine Cmp.inB (op_mem _) ?_
    refine ite_b (fun h2 => ?_) fun h2 => ?_
    rotate_left
    · rw [if_neg (show ¬ (isOp c = true ∧ B.cl = 0 ∧ B.op = none) from fun q => by rw [h2] at q; cases q.1), if_neg (by rw [h2]; decide)] at h
      exact Ex.nil (Ex.nil (Ex.nil h))
    rw [if_pos h2] at h
    have last : ∀ op', op' = (if isOp c = true ∧ B.cl = 0 ∧ B.op = none then some k else B.op) → Ex C A (fenv (fdOf "law" pm cd sLaw) f L) ((ifB (stAt 0 (elB (stAt 1 (forB (stAt 6 (fnB sLaw))))))).drop 1) ((it, .obj o) :: (gr, .list rs) :: (L, .ns (M12 v0 (.str (S l)) v1 v2 v3 v4 v5 (.int (k : Nat)) (.int (e : Nat)) (.str (S (newer (chOf l k) B.ch))) (opV op') (.int B.cl) v7 v8)) :: R) (Seq C A (fenv (fdOf "law" pm cd sLaw) f L) [] (Seq C A (fenv (fdOf "law" pm cd sLaw) f L) [] Ψ)) := fun op' hop => by
      rw [← hop] at h
      refine Ex.cons ?_
      refine Ex1.assign ?_ ?_
      rotate_left
      · kernel_rfl
      refine Ev.bin ?_
      walk_at "nm"
      refine Ev.int ?_
      refine Op2.subI ?_
      walk_at "sto"
      exact Ex.nil (Ex.nil (Ex.nil h))
    refine Ex.cons ?_
    refine Ex1.ite ?_
    refine Ts.and ?_
    refine Ts.cmp ?_
    walk_at "nm"
    refine Ev.int ?_
    refine Cmp.eqI ?_
    refine ite_b (fun h3 => ?_) fun h3 => ?_
    · have h3 : B.cl = 0 := by simpa using h3
      refine Ts.and ?_
      refine Ts.cmp ?_
      refine Ev.loc (by walk_at "mem") (by walk_at "mem") ?_ (opV_any _)
      refine Ev.none ?_
      cases hop : B.op with
      | none =>
        refine Cmp.isNone (b := true) (.inl ⟨rfl, rfl⟩) ?_
        refine ite_t rfl ?_
        refine Ts.and_nil ?_
        refine ite_t rfl ?_
        refine Ex.cons ?_
        refine Ex1.assign ?_ ?_
        rotate_left
        · kernel_rfl
        walk_at "nm"
        walk_at "sto"
        refine Ex.nil ?_
        exact last (some k) (by rw [if_pos ⟨h2, h3, hop⟩])
      | some y =>
        refine Cmp.isNone (b := false) (.inr ⟨⟨_, rfl⟩, rfl⟩) ?_
        refine ite_f rfl ?_
        refine ite_f rfl (Ex.nil ?_)
        exact last (some y) (by rw [if_neg (fun q => by rw [hop] at q; cases q.2.2), hop])
    · have h3 : B.cl ≠ 0 := by simpa using h3
      refine ite_f rfl (Ex.nil ?_)
      exact last B.op (by rw [if_neg (fun q => h3 q.2.1)])
  have skip : newer (chOf l k) B.ch = B.ch → Ex C A (fenv (fdOf "law" pm cd sLaw) f L) ((forB (stAt 6 (fnB sLaw))).drop 1) ((it, .obj o) :: (gr, .list rs) :: (L, .ns (M12 v0 (.str (S l)) v1 v2 v3 v4 v5 (.int (k : Nat)) (.int (e : Nat)) (.str (S B.ch)) (opV B.op) (.int B.cl) v7 v8)) :: R) Ψ := fun e1 => by rw [e1] at fin; exact fin
  refine Ex.cons ?_
  refine Ex1.ite ?_
  refine Ts.and ?_
  refine Ts.cmp ?_
  walk_at "nm"
  refine Ev.strS (a := []) (by decide) ?_
  refine Cmp.eqTx ?_
  refine ite_b (fun h1 => ?_) fun h1 => ?_
  rotate_left
  · have h1 := of_decide_eq_false h1
    refine ite_f rfl (Ex.nil ?_)
    exact skip (by unfold newer; rw [if_neg h1])
  have h1 := of_decide_eq_true h1
  rw [h1, newer_nil] at fin skip
  rw [h1]
  refine Ts.and ?_
  refine Ts.cmp ?_
  refine Ev.chrN hl hc (by walk_at "mem") (by walk_at "mem") (by walk_at "mem") ?_
  refine Ev.strS (a := [32, 9, 10, 35]) (by decide) ?_
  refine Cmp.notInC ?_
  rw [no_mem]
  have hof : chOf l k = if c = 32 ∨ c = 9 ∨ c = 10 ∨ c = 35 then [] else if c = 92 then (if chr l (k + 1) = 10 then [] else [92, chr l (k + 1)]) else [c] := by unfold chOf; rw [hch]
  by_cases h2 : c = 32 ∨ c = 9 ∨ c = 10 ∨ c = 35
  · rw [if_pos h2] at hof
    rw [decide_eq_true h2]
    refine ite_f rfl ?_
    refine ite_f rfl (Ex.nil ?_)
    exact skip hof
  rw [if_neg h2] at hof
  rw [decide_eq_false h2]
  refine ite_t rfl ?_
  refine Ts.and ?_
  refine Ts.cmp ?_
  refine Ev.slice ?_
  walk_at "nm"
  refine Ev.loc (by walk_at "mem") (by walk_at "mem") ⟨_, rfl, ?_⟩
  refine Ev.loc (by walk_at "mem") (by walk_at "mem") ⟨_, rfl, ?_⟩
  refine Sli.str (by rw [S_len]; lia) ?_
  rw [slice_S (by lia) (by lia), Int.toNat_natCast, show ((e : Int) - (k : Int)).toNat = e - k by lia]
  refine Ev.strS (a := [92, 10]) (by decide) ?_
  refine Cmp.neTx ?_
  have put : chOf l k ≠ [] → Ex C A (fenv (fdOf "law" pm cd sLaw) f L) (ifB (stAt 0 (forB (stAt 6 (fnB sLaw))))) ((it, .obj o) :: (gr, .list rs) :: (L, .ns (M12 v0 (.str (S l)) v1 v2 v3 v4 v5 (.int (k : Nat)) (.int (e : Nat)) (.str (S [])) (opV B.op) (.int B.cl) v7 v8)) :: R) (Seq C A (fenv (fdOf "law" pm cd sLaw) f L) ((forB (stAt 6 (fnB sLaw))).drop 1) Ψ) := fun hnn => by
    refine Ex.cons ?_
    refine Ex1.assign ?_ ?_
    rotate_left
    · kernel_rfl
    refine Ev.ite ?_
    refine Ts.cmp ?_
    refine Ev.chrN hl hc (by walk_at "mem") (by walk_at "mem") (by walk_at "mem") ?_
    refine Ev.strS (a := [92]) (by decide) ?_
    refine Cmp.eqCh ?_
    refine ite_b (fun h4 => ?_) fun h4 => ?_
    · have h4 : c = 92 := eq_of_beq h4
      subst h4
      obtain ⟨hp2, rfl⟩ := mk_bs hm hc
      obtain ⟨d, hd⟩ : ∃ d, l[k + 1]? = some d := ⟨_, List.getElem?_eq_getElem (by lia)⟩
      refine Ev.slice ?_
      walk_at "nm"
      refine Ev.loc (by walk_at "mem") (by walk_at "mem") ⟨_, rfl, ?_⟩
      refine Ev.loc (by walk_at "mem") (by walk_at "mem") ⟨_, rfl, ?_⟩
      refine Sli.str (by rw [S_len]; lia) ?_
      rw [slice_S (by lia) (by lia), Int.toNat_natCast, show (((k + 2 : Nat) : Int) - (k : Int)).toNat = 2 by lia, drop_at hc, drop_at hd]
      have e1 : chOf l k = [92, d] := by
        rw [if_pos rfl, chr_at hd] at hof
        by_cases hd10 : d = 10
        · rw [if_pos hd10] at hof; exact absurd hof hnn
        · rw [if_neg hd10] at hof; exact hof
      rw [e1] at fin
      show Sto C A _ _ (.str (S [92, d])) _ _
      walk_at "sto"
      exact Ex.nil fin
    · have h4 : c ≠ 92 := fun e => by subst e; exact absurd h4 (by decide)
      rw [if_neg h4] at hof
      rw [hof] at fin
      refine Ev.chrN hl hc (by walk_at "mem") (by walk_at "mem") (by walk_at "mem") ?_
      walk_at "sto"
      exact Ex.nil fin
  by_cases h3 : c = 92
  · subst h3
    rw [if_pos rfl] at hof
    obtain ⟨hp2, rfl⟩ := mk_bs hm hc
    obtain ⟨d, hd⟩ : ∃ d, l[k + 1]? = some d := ⟨_, List.getElem?_eq_getElem (by lia)⟩
    have e1 : (l.drop k).take (k + 2 - k) = [92, d] := by
      rw [show k + 2 - k = 2 by lia, drop_at hc, drop_at hd]; rfl
    rw [chr_at hd] at hof
    rw [e1]
    by_cases hd10 : d = 10
    · rw [if_pos hd10] at hof
      rw [decide_eq_true (by rw [hd10])]
      refine ite_f rfl ?_
      refine ite_f rfl (Ex.nil ?_)
      exact skip hof
    · rw [if_neg hd10] at hof
      rw [decide_eq_false (by intro q; exact hd10 (List.cons.inj (List.cons.inj q).2).1)]
      refine ite_t rfl ?_
      refine Ts.and_nil ?_
      refine ite_t rfl ?_
      exact put (by rw [hof]; simp)
  · rw [if_neg h3] at hof
    have e1 : (l.drop k).take (e - k) ≠ [92, 10] := fun q => by
      rw [drop_at hc, show e - k = (e - k - 1) + 1 by lia, List.take_succ_cons] at q
      exact h3 (List.cons.inj q).1
    rw [decide_eq_false e1]
    refine ite_t rfl ?_
    refine Ts.and_nil ?_
    refine ite_t rfl ?_
    exact put (by rw [hof]; simp)
end
section
variable {C : Cx} {A : Around} {env : Env} {R : Led} {mg mb : Str → Option Value} {K : Frag} {Φ : V → Led → Prop} {Ψ : Fl → Led → Prop} {pm cd : Value} {x dx c f f2 fI fC fS tb fT fL fM fJ L gr it : Addr} {pos : Pos} {l : List Nat} {F : FS} {B : BS} {k e a b : Nat} {v0 v1 v2 v3 v4 v5 v6 v7 v8 v9 : V} {o : Obj} {T ms : List (Nat × Nat)} {rs : List V} {xs : List Int}
theorem Kit2.get (Z : Kit C mg mb K c fI fC fS tb) (Z2 : Kit2 C mg K c f2) {x : Str} {xp : Pos} {name : Str} {a dx : Addr} {m : List (Str × V)} {v : V}
    (hn : name ∈ (["stmt_start", "stmt_end", "lastch", "lastopenbracketpos", "stmt_bracketing"] : List Str))
    (h : Ev C A env (.Name x xp) R fun o R₁ => o = .ref a ∧ (a, .obj (instObj c dx)) ∈ R₁ ∧ (dx, .att m) ∈ R₁ ∧ (name, v) ∈ m ∧ Φ v R₁) (hv : v.isBi = false := by rfl)
    (he : eval (.Attribute (.Name x xp) name pos) env = (do
      let o ← eval (.Name x xp) env
      standAt pos.atName
      let r ← holding [o] (getAttr o name true)
      letTemporaryGo (.Name x xp) o r
      pure r) := by with_unfolding_all rfl) : Ev C A env (.Attribute (.Name x xp) name pos) R Φ :=
  Ev.attr Z.P.X h (Z2.at_ _ hn).1 Z.P.hd (Z2.at_ _ hn).2.1 hv he
theorem opV_bi (op : Option Nat) : (opV op).isBi = false := by cases op <;> rfl
theorem law_b (Z : KitM C mg mb K c fI fC fS tb) (Z2 : Kit2 C mg K c f2) (hh : A.handled = none) (hd : A.depth + 2 < recursionLimit) (hu : A.units + 64 < cLine) (hlast : l.getLast? = some 10) (hl : l.length ≤ 190) (hch : ∀ c ∈ l, c < 128) (hms : Cut l 0 ms l.length)
    (hT : (ms.foldl (ls1 l) ⟨[], [], 0⟩).last = T) (hcut : Cut l a T b) (h0 : T = [] → a = 0 ∧ b = 0) (hF : T.foldl (fs1 l) (F0 a) = F) (hop : B.op = F.stk.getLast?) (hBch : B.ch = F.ch) :
    Ex C A (fenv (fdOf "law" pm cd sLaw) f L) ((fnB sLaw).drop 7) [(gr, .list (mksV F.rows)), (L, .ns (M12 v0 (.str (S l)) v1 (.int a) (.int b) (.ref gr) v2 v3 v4 (.str (S B.ch)) (opV B.op) v5 .any .any))] (fun g R => g.val = .bool true) := by
  have hTl := hcut.len
  have hble := hcut.le
  refine Ex.cons ?_
  refine Ex1.assign ?_ ?_
  rotate_left
  · kernel_rfl
  refine Ev.callN ?_
  refine Ev.glob Z.Z.G Z.nm (fun _ => .ref _) ?_
  refine EvL.cons ?_
  refine Ev.int ?_
  refine EvL.cons ?_
  refine Ev.int ?_
  refine EvL.nil ⟨Kpr.cls Z.Z.P.X Z.keep, ?_⟩
  refine Z.made (by lia) fun x dx => ?_
  walk_at "sto"
  refine Ex.cons ?_
  refine Ex1.expr ?_
  refine Ev.methI (a := x) (dx := dx) Z.Z.P.X (Ev.loc (by walk_at "mem") (by walk_at "mem") ⟨rfl, by walk_at "mem", by walk_at "mem", by exact (show ("set_code" : Str) ∉ (["indentwidth", "tabwidth"] : List Str) by decide), ?_⟩) Z.gC Z.cC Z.tC Z.kC
  refine EvL.cons ?_
  walk_at "nm"
  refine EvL.nil ?_
  refine Z.Z.put (by lia) (.inr hlast) (by lia) (.inl ⟨rfl, rfl⟩) ⟨rfl, ?_⟩
  refine Ex.cons ?_
  refine Ex1.ite ?_
  refine Ts.cmp ?_
  refine Ev.methI (a := x) (dx := dx) Z.Z.P.X (Ev.loc (by walk_at "mem") (by walk_at "mem") ⟨rfl, by walk_at "mem", by walk_at "mem", by exact (show ("_study2" : Str) ∉ (["indentwidth", "tabwidth", "code", "study_level"] : List Str) by decide), ?_⟩) Z2.g2 Z2.cf Z2.t2 Z2.k2
  refine EvL.nil ?_
  refine two_call Z Z2 hh hd hlast hl hms ?_
  rw [hT]
  intro u v a' b' hcut' h0'
  obtain ⟨rfl, rfl⟩ : a = a' ∧ b = b' := by
    by_cases hn : T = []
    · obtain ⟨rfl, rfl⟩ := h0 hn
      obtain ⟨rfl, rfl⟩ := h0' hn
      exact ⟨rfl, rfl⟩
    · exact hcut.same hcut' hn
  rw [hF]
  refine Ev.none ?_
  refine Cmp.isNotNone ?_
  refine ite_f rfl (Ex.nil ?_)
  show Ex C A _ _ _ _
  refine Ex.cons ?_
  refine Ex1.assign ?_ ?_
  rotate_left
  · kernel_rfl
  refine Ev.tuple ?_
  refine EvL.cons ?_
  refine Z2.get (a := x) (dx := dx) (v := .int a) Z.Z (by decide) (Ev.loc (by walk_at "mem") (by walk_at "mem") ⟨rfl, by walk_at "mem", by walk_at "mem", by walk_at "mem", ?_⟩)
  refine EvL.cons ?_
  refine Z2.get (a := x) (dx := dx) (v := .int b) Z.Z (by decide) (Ev.loc (by walk_at "mem") (by walk_at "mem") ⟨rfl, by walk_at "mem", by walk_at "mem", by walk_at "mem", ?_⟩)
  refine EvL.cons ?_
  refine Z2.get (a := x) (dx := dx) (v := .str (S F.ch)) Z.Z (by decide) (Ev.loc (by walk_at "mem") (by walk_at "mem") ⟨rfl, by walk_at "mem", by walk_at "mem", by walk_at "mem", ?_⟩)
  refine EvL.cons ?_
  refine Z2.get (a := x) (dx := dx) (v := opV F.stk.getLast?) Z.Z (by decide) (Ev.loc (by walk_at "mem") (by walk_at "mem") ⟨rfl, by walk_at "mem", by walk_at "mem", by walk_at "mem", ?_⟩) (opV_bi _)
  refine EvL.cons ?_
  refine Z2.get (a := x) (dx := dx) (v := .tup (mksV F.rows)) Z.Z (by decide) (Ev.loc (by walk_at "mem") (by walk_at "mem") ⟨rfl, by walk_at "mem", by walk_at "mem", by walk_at "mem", ?_⟩)
  refine EvL.nil ?_
  walk_at "sto"
  refine Ex.cons ?_
  refine Ex1.ret ?_
  refine Ev.cmp ?_
  walk_at "nm"
  refine Ev.tuple ?_
  refine EvL.cons ?_
  walk_at "nm"
  refine EvL.cons ?_
  walk_at "nm"
  refine EvL.cons ?_
  walk_at "nm"
  refine EvL.cons ?_
  refine Ev.loc (by walk_at "mem") (by walk_at "mem") ?_ (opV_any _)
  refine EvL.cons ?_
  refine Ev.callN ?_
  refine Ev.blt Z.Z.G Z2.tuple (u := .type "tuple") (by kernel_rfl) (fun _ => .ty _) ?_
  refine EvL.cons ?_
  walk_at "nm"
  refine EvL.nil ⟨Kpr.ty, ?_⟩
  obtain ⟨q1, q2⟩ := fold_len (l := l) T (F0 a)
  have q2 : (T.foldl (fs1 l) (F0 a)).rows.length ≤ 1 + 2 * T.length := q2
  rw [hF] at q2
  have hbl : b ≤ l.length := hcut.leN (by
    by_cases hn : T = []
    · rw [(h0 hn).1]; exact Nat.zero_le _
    · obtain ⟨m, e1, e2⟩ := hcut.first hn
      have hm := hcut.mem m (List.mem_of_getElem? e1)
      have := hm.lt
      have := hm.leN
      lia)
  refine Cl.tupL (LstOf.at (by walk_at "mem")) (by rw [List.length_map]; lia) ?_
  refine EvL.nil ?_
  rw [hop, hBch]
  have hsm : ∀ c ∈ F.ch, c < 128 := by rw [← hF]; exact ch_small hch T (F0 a) fun c hc => nomatch hc
  refine Cmp.eqD (x := toldD a b F.ch F.stk.getLast? F.rows) (y := toldD a b F.ch F.stk.getLast? F.rows) (told_data _ _ _ _ _) (told_data _ _ _ _ _) (told_shaped _ _ _ _ _ hsm) (told_shaped _ _ _ _ _ hsm) hu ?_
  rw [SeqAt.eqv_refl _ (SeqAt.canLay_of_shaped (told_shaped _ _ _ _ _ hsm))]
  rfl
theorem law_ok (Z : KitM C mg mb K c fI fC fS tb) (hh : A.handled = none) (hd : A.depth + 2 < recursionLimit) (hu : A.units + 64 < cLine) (Z2 : Kit2 C mg K c f2)
    (FT : ∃ pm cd, FnAt C fT (fdOf "_law_text" pm cd sTxt) (fnB sTxt) ["script"]) (nT : mg "_law_text" = some (.ref fT))
    (FM : ∃ pm cd, FnAt C fM (fdOf "_law_marks" pm cd sMks) (fnB sMks) ["text"]) (nM : mg "_law_marks" = some (.ref fM))
    (FJ : ∃ pm cd, FnAt C fJ (fdOf "_law_junk" pm cd sJnk) (fnB sJnk) ["text", "k"]) (nJ : mg "_law_junk" = some (.ref fJ))
    (FL : ∃ pm cd, FnAt C fL (fdOf "_law_last" pm cd sLst) (fnB sLst) ["text"]) (nL : mg "_law_last" = some (.ref fL)) (hmax : mg "max" = none) (hx : xs.length ≤ 63) :
    Ex C A (fenv (fdOf "law" pm cd sLaw) f L) (fnB sLaw) [(L, .ns (M12 (.lst (xs.map V.int)) .any .any .any .any .any .any .any .any .any .any .any .any .any))] (fun g R => g.val = .bool true) := by
  obtain ⟨pmT, cdT, FT⟩ := FT
  obtain ⟨pmL, cdL, FL⟩ := FL
  refine Ex.cons ?_
  refine Ex1.assign ?_ ?_
  rotate_left
  · kernel_rfl
  refine Ev.callN ?_
  refine Ev.glob Z.Z.G nT (fun _ => .ref _) ?_
  refine EvL.cons ?_
  walk_at "nm"
  refine EvL.nil ⟨FT.kpr, ?_⟩
  refine txt_call Z.Z.G hh FT (by lia) hx ?_
  intro l hlast hl hch
  walk_at "sto"
  refine Ex.cons ?_
  refine Ex1.assign ?_ ?_
  rotate_left
  · kernel_rfl
  refine Ev.callN ?_
  refine Ev.glob Z.Z.G nL (fun _ => .ref _) ?_
  refine EvL.cons ?_
  walk_at "nm"
  refine EvL.nil ⟨FL.kpr, ?_⟩
  refine last_call Z.Z.G Z.Z.len hmax nJ nM hh (by lia) FL FJ FM hlast hl ?_
  intro ms hms
  obtain ⟨a, b, hcut, hbl, h0⟩ := last_cut hlast hms
  generalize hT : (ms.foldl (ls1 l) ⟨[], [], 0⟩).last = T at hcut h0
  have hTl := hcut.len
  walk_at "sto"
  have after : Ex C A (fenv (fdOf "law" pm cd sLaw) f L) ((fnB sLaw).drop 3) [(L, .ns (M12 (.lst (xs.map V.int)) (.str (S l)) (.lst (mksV T)) (.int a) (.int b) .any .any .any .any .any .any .any .any .any))] (fun g R => g.val = .bool true) := by
    refine Ex.cons ?_
    refine Ex1.assignS hh ?_
    refine Ev.tuple ?_
    refine EvL.cons ?_
    refine Ev.listM ?_
    refine EvL.cons ?_
    refine Ev.tuple ?_
    refine EvL.cons ?_
    walk_at "nm"
    refine EvL.cons ?_
    refine Ev.int ?_
    refine EvL.nil ?_
    refine EvL.nil ?_
    intro gr
    refine EvL.cons ?_
    refine Ev.int ?_
    refine EvL.nil ⟨_, rfl, rfl, ?_⟩
    walk_at "sto"
    walk_at "sto"
    refine Ex.cons ?_
    refine Ex1.forL (fun vs R' => ∃ done rest k vk ve, T = done ++ rest ∧ Cut l k rest b ∧ vs = mksV rest ∧ R' = [(gr, .list (mksV (done.foldl (fs1 l) (F0 a)).rows)), (L, .ns (M12 (.lst (xs.map V.int)) (.str (S l)) (.lst (mksV T)) (.int a) (.int b) (.ref gr) (.int (done.foldl (fs1 l) (F0 a)).stk.length) vk ve .any .any .any .any .any))]) hh ?_ ?_ ?_
    · refine Ev.loc (by walk_at "mem") (by walk_at "mem") ?_
      exact ⟨_, rfl, [], T, a, .any, .any, rfl, hcut, rfl, rfl⟩
    · rintro it o v rest' R' ⟨done, rest, k, vk, ve, hTd, hrest, hvs, rfl⟩
      cases hrest with
      | nil => cases hvs
      | @cons _ e _ rest hm hrest =>
      obtain ⟨rfl, rfl⟩ := List.cons.inj hvs
      refine As.tuple ?_ hh
      refine As.name ?_
      walk_at "sto"
      refine As.name ?_
      walk_at "sto"
      obtain ⟨q1, q2⟩ := fold_len (l := l) done (F0 a)
      have q1 : (done.foldl (fs1 l) (F0 a)).stk.length ≤ 0 + done.length := q1
      have q2 : (done.foldl (fs1 l) (F0 a)).rows.length ≤ 1 + 2 * done.length := q2
      have hdl : done.length ≤ T.length := by rw [hTd, List.length_append]; lia
      have hfold : (done ++ [(k, e)]).foldl (fs1 l) (F0 a) = fs1 l (done.foldl (fs1 l) (F0 a)) (k, e) := by rw [List.foldl_append]; rfl
      refine fwd Z.Z.G hmax hh hl hm (by lia) (by lia) ?_
      refine ⟨_, .rest, done ++ [(k, e)], rest, e, .int (k : Nat), .int (e : Nat), by rw [hTd, List.append_assoc]; rfl, hrest, rfl, ?_⟩
      rw [hfold]
    · rintro R' ⟨done, rest, k, vk, ve, hTd, hrest, hvs, rfl⟩
      cases rest with
      | cons m rest => cases hvs
      | nil =>
      rw [List.append_nil] at hTd
      subst hTd
      refine Ex.nil ?_
      show Ex C A _ _ _ _
      refine Ex.cons ?_
      refine Ex1.assignT ?_ ?_ ?_
      rotate_left
      · kernel_rfl
      · kernel_rfl
      refine Ev.tuple ?_
      refine EvL.cons ?_
      refine Ev.strS (a := []) (by decide) ?_
      refine EvL.cons ?_
      refine Ev.none ?_
      refine EvL.cons ?_
      refine Ev.int ?_
      refine EvL.nil ?_
      refine As.tuple ?_ hh
      refine As.name ?_
      walk_at "sto"
      refine As.name ?_
      walk_at "sto"
      refine As.name ?_
      walk_at "sto"
      have hmem := hcut.mem
      refine Ex.cons ?_
      refine Ex1.forL (fun vs R' => ∃ d r vk ve, T.reverse = d ++ r ∧ vs = mksV r ∧ R' = [(gr, .list (mksV (T.foldl (fs1 l) (F0 a)).rows)), (L, .ns (M12 (.lst (xs.map V.int)) (.str (S l)) (.lst (mksV T)) (.int a) (.int b) (.ref gr) (.int (T.foldl (fs1 l) (F0 a)).stk.length) vk ve (.str (S (d.foldl (bs1 l) ⟨[], none, 0⟩).ch)) (opV (d.foldl (bs1 l) ⟨[], none, 0⟩).op) (.int (d.foldl (bs1 l) ⟨[], none, 0⟩).cl) .any .any))]) hh ?_ ?_ ?_
      · refine Ev.rev ?_
        walk_at "nm"
        refine Ev.neg ?_
        refine Ev.int ?_
        refine ⟨_, rfl, rfl, mksV T, .lst, by rw [List.length_map]; lia, ?_⟩
        refine ⟨_, rfl, [], T.reverse, _, _, rfl, ?_, rfl⟩
        unfold mksV; rw [List.map_reverse]
      · rintro it o v rest' R' ⟨d, r, vk, ve, hTd, hvs, rfl⟩
        cases r with
        | nil => cases hvs
        | cons m r =>
        obtain ⟨rfl, rfl⟩ := List.cons.inj hvs
        have hm : Mk l m.1 m.2 := hmem m (by rw [← List.mem_reverse, hTd]; simp)
        obtain ⟨k, e⟩ := m
        refine As.tuple ?_ hh
        refine As.name ?_
        walk_at "sto"
        refine As.name ?_
        walk_at "sto"
        have hfold : (d ++ [(k, e)]).foldl (bs1 l) ⟨[], none, 0⟩ = bs1 l (d.foldl (bs1 l) ⟨[], none, 0⟩) (k, e) := by rw [List.foldl_append]; rfl
        refine bwd hl hm ?_
        refine ⟨_, .rest, d ++ [(k, e)], r, .int (k : Nat), .int (e : Nat), by rw [hTd, List.append_assoc]; rfl, rfl, ?_⟩
        rw [hfold]
      · rintro R' ⟨d, r, vk, ve, hTd, hvs, rfl⟩
        cases r with
        | cons m r => cases hvs
        | nil =>
        rw [List.append_nil] at hTd
        subst hTd
        refine Ex.nil ?_
        show Ex C A _ _ _ _
        refine law_b (ms := ms) (T := T) (F := T.foldl (fs1 l) (F0 a)) (B := T.reverse.foldl (bs1 l) ⟨[], none, 0⟩) Z Z2 hh hd hu hlast hl hch hms hT hcut h0 rfl ?_ ?_
        · rw [last_open, fold_stk]
        · rw [fold_ch T (F0 a)]; exact (nil_newer _).symm
  refine Ex.cons ?_
  refine Ex1.assignT ?_ ?_ ?_
  rotate_left
  · kernel_rfl
  · kernel_rfl
  refine Ev.ite ?_
  refine Ts.cmp ?_
  walk_at "nm"
  refine Ev.list ?_
  refine EvL.nil ?_
  refine Cmp.neD (x := .list (T.map mkD)) (y := .list []) (by simp only [V.data, mks_data]; rfl) rfl (list_shaped T) (by kernel_rfl) hu ?_
  cases hTn : T with
  | nil =>
    obtain ⟨rfl, rfl⟩ := h0 hTn
    rw [hTn] at after
    refine ite_f (by kernel_rfl) ?_
    refine Ev.tuple ?_
    refine EvL.cons ?_
    refine Ev.int ?_
    refine EvL.cons ?_
    refine Ev.int ?_
    refine EvL.nil ?_
    refine As.tuple ?_ hh
    refine As.name ?_
    walk_at "sto"
    refine As.name ?_
    walk_at "sto"
    exact after
  | cons m0 T' =>
    obtain ⟨m, e1, e2⟩ := hcut.first (by rw [hTn]; simp)
    obtain ⟨n, f1, f2⟩ := hcut.last (by rw [hTn]; simp)
    rw [hTn] at e1 f1 after hTl
    refine ite_t (by show (!(PyData.list (mkD m0 :: T'.map mkD)).eqv (.list [])) = true; simp [PyData.eqv, PyData.eqvAll]) ?_
    refine Ev.tuple ?_
    refine EvL.cons ?_
    refine Ev.item ?_
    refine Ev.item ?_
    walk_at "nm"
    refine Ev.int ?_
    refine Itm.lst (w := mkV m) .lst (by decide) (by unfold mksV; rw [List.getElem?_map, show (0 : Int).toNat = 0 from rfl, e1]; rfl) ?_ (by decide)
    refine Ev.int ?_
    refine Itm.tup (w := .int m.1) (j := 0) rfl rfl ?_ (by decide) (by decide)
    refine EvL.cons ?_
    refine Ev.item ?_
    refine Ev.item ?_
    walk_at "nm"
    refine Ev.neg ?_
    refine Ev.int ?_
    refine ⟨_, rfl, ?_⟩
    refine Itm.lstN (w := mkV n) .lst (by decide) (by rw [List.length_map, List.length_cons]; lia) (by
      rw [List.length_map, show ((-1 : Int) + ((m0 :: T').length : Int)).toNat = (m0 :: T').length - 1 by lia]
      unfold mksV; rw [List.getElem?_map, f1]; rfl) ?_ (by decide)
    refine Ev.int ?_
    refine Itm.tup (w := .int n.2) (j := 1) rfl rfl ?_ (by decide) (by decide)
    refine EvL.nil ?_
    rw [e2, f2]
    refine As.tuple ?_ hh
    refine As.name ?_
    walk_at "sto"
    refine As.name ?_
    walk_at "sto"
    exact after
end
theorem pat_at {K : Frag} {B : Heap} {q p t : Addr} {code : Array Nat} {o o' : Obj} {its : Array Value} {n : Nat} (X : K.In B) (h1 : K.lookup q = some (boundPat p)) (h2 : K.lookup p = some o) (h3 : isPat t o) (h4 : K.lookup t = some o') (h5 : o' = { cls := .type "tuple", data := .seq its n }) (h6 : (its.toList.map Builtin.Re.reRawOf).map (·.toNat) = code.toList) : PatAt B q p t code := by
  subst h5
  refine ⟨X _ _ h1, ⟨o, X _ _ h2, h3⟩, its, n, X _ _ h4, ?_⟩
  apply Array.toList_inj.mp
  rw [Array.toList_map, Array.toList_map]; exact h6
end Mine
end
open PySem PySem.W PyProof.Rows PySem.Calls
set_option Elab.async false
set_option linter.unusedVariables false
set_option maxRecDepth 100000
set_option maxHeartbeats 8000000
namespace Mine
def fnA : Stmt → Arguments
  | .FunctionDef _ a _ _ _ _ _ _ _ _ => a
  | _ => default
noncomputable abbrev p9 : Program := PySem.Challenge.pw_dm0164_12
noncomputable abbrev b9 : List Stmt := behindTheImports p9
noncomputable def e9 : Env := { scope := p9.main.scope, locals := mainNs, globals := mainNs, cells := [], code := (@PySem.Value.ref 30), frame := some 31 }
noncomputable abbrev c9 : Code := .body b9 e9
noncomputable abbrev B9 : List Frame := [topFrame (@PySem.Pos.mk 0 0 0 0)]
noncomputable abbrev ann9 : Option Value := (@Option.some @PySem.Value (@PySem.Value.ref 6))
noncomputable def h0_0 (P : Params) : Obj := (.mk (.type "dict") none (.dict #[(.mk (PyData.keyHash P "__name__") (.str "__name__" 1) (.str "builtins" 160)), (.mk (PyData.keyHash P "__doc__") (.str "__doc__" 2) (.builtin "builtins.__doc__:str#opaque")), (.mk (PyData.keyHash P "__package__") (.str "__package__" 3) (.builtin "builtins.__package__:str#opaque")), (.mk (PyData.keyHash P "__loader__") (.str "__loader__" 4) (.builtin "builtins.__loader__:shared#opaque")), (.mk (PyData.keyHash P "__spec__") (.str "__spec__" 5) (.builtin "builtins.__spec__#opaque")), (.mk (PyData.keyHash P "__build_class__") (.str "__build_class__" 6) (.builtin "__build_class__")), (.mk (PyData.keyHash P "__import__") (.str "__import__" 7) (.builtin "__import__")), (.mk (PyData.keyHash P "abs") (.str "abs" 8) (.builtin "abs")), (.mk (PyData.keyHash P "all") (.str "all" 9) (.builtin "all")), (.mk (PyData.keyHash P "any") (.str "any" 10) (.builtin "any")), (.mk (PyData.keyHash P "ascii") (.str "ascii" 11) (.builtin "ascii")), (.mk (PyData.keyHash P "bin") (.str "bin" 12) (.builtin "bin")), (.mk (PyData.keyHash P "breakpoint") (.str "breakpoint" 13) (.builtin "breakpoint")), (.mk (PyData.keyHash P "callable") (.str "callable" 14) (.builtin "callable")), (.mk (PyData.keyHash P "chr") (.str "chr" 15) (.builtin "chr")), (.mk (PyData.keyHash P "compile") (.str "compile" 16) (.builtin "compile")), (.mk (PyData.keyHash P "delattr") (.str "delattr" 17) (.builtin "delattr")), (.mk (PyData.keyHash P "dir") (.str "dir" 18) (.builtin "dir")), (.mk (PyData.keyHash P "divmod") (.str "divmod" 19) (.builtin "divmod")), (.mk (PyData.keyHash P "eval") (.str "eval" 20) (.builtin "eval")), (.mk (PyData.keyHash P "exec") (.str "exec" 21) (.builtin "exec")), (.mk (PyData.keyHash P "format") (.str "format" 22) (.builtin "format")), (.mk (PyData.keyHash P "getattr") (.str "getattr" 23) (.builtin "getattr")), (.mk (PyData.keyHash P "globals") (.str "globals" 24) (.builtin "globals")), (.mk (PyData.keyHash P "hasattr") (.str "hasattr" 25) (.builtin "hasattr")), (.mk (PyData.keyHash P "hash") (.str "hash" 26) (.builtin "hash")), (.mk (PyData.keyHash P "hex") (.str "hex" 27) (.builtin "hex")), (.mk (PyData.keyHash P "id") (.str "id" 28) (.builtin "id")), (.mk (PyData.keyHash P "input") (.str "input" 29) (.builtin "input")), (.mk (PyData.keyHash P "isinstance") (.str "isinstance" 30) (.builtin "isinstance")), (.mk (PyData.keyHash P "issubclass") (.str "issubclass" 31) (.builtin "issubclass")), (.mk (PyData.keyHash P "iter") (.str "iter" 32) (.builtin "iter")), (.mk (PyData.keyHash P "aiter") (.str "aiter" 33) (.builtin "aiter")), (.mk (PyData.keyHash P "len") (.str "len" 34) (.builtin "len")), (.mk (PyData.keyHash P "locals") (.str "locals" 35) (.builtin "locals")), (.mk (PyData.keyHash P "max") (.str "max" 36) (.builtin "max")), (.mk (PyData.keyHash P "min") (.str "min" 37) (.builtin "min")), (.mk (PyData.keyHash P "next") (.str "next" 38) (.builtin "next")), (.mk (PyData.keyHash P "anext") (.str "anext" 39) (.builtin "anext")), (.mk (PyData.keyHash P "oct") (.str "oct" 40) (.builtin "oct")), (.mk (PyData.keyHash P "ord") (.str "ord" 41) (.builtin "ord")), (.mk (PyData.keyHash P "pow") (.str "pow" 42) (.builtin "pow")), (.mk (PyData.keyHash P "print") (.str "print" 43) (.builtin "print")), (.mk (PyData.keyHash P "repr") (.str "repr" 44) (.builtin "repr")), (.mk (PyData.keyHash P "round") (.str "round" 45) (.builtin "round")), (.mk (PyData.keyHash P "setattr") (.str "setattr" 46) (.builtin "setattr")), (.mk (PyData.keyHash P "sorted") (.str "sorted" 47) (.builtin "sorted")), (.mk (PyData.keyHash P "sum") (.str "sum" 48) (.builtin "sum")), (.mk (PyData.keyHash P "vars") (.str "vars" 49) (.builtin "vars")), (.mk (PyData.keyHash P "None") (.str "None" 50) .none), (.mk (PyData.keyHash P "Ellipsis") (.str "Ellipsis" 51) .ellipsis), (.mk (PyData.keyHash P "NotImplemented") (.str "NotImplemented" 52) .notImplemented), (.mk (PyData.keyHash P "False") (.str "False" 53) (.bool false)), (.mk (PyData.keyHash P "True") (.str "True" 54) (.bool true)), (.mk (PyData.keyHash P "bool") (.str "bool" 55) (.type "bool")), (.mk (PyData.keyHash P "memoryview") (.str "memoryview" 56) (.type "memoryview")), (.mk (PyData.keyHash P "bytearray") (.str "bytearray" 57) (.type "bytearray")), (.mk (PyData.keyHash P "bytes") (.str "bytes" 58) (.type "bytes")), (.mk (PyData.keyHash P "classmethod") (.str "classmethod" 59) (.type "classmethod")), (.mk (PyData.keyHash P "complex") (.str "complex" 60) (.type "complex")), (.mk (PyData.keyHash P "dict") (.str "dict" 61) (.type "dict")), (.mk (PyData.keyHash P "enumerate") (.str "enumerate" 62) (.type "enumerate")), (.mk (PyData.keyHash P "filter") (.str "filter" 63) (.type "filter")), (.mk (PyData.keyHash P "float") (.str "float" 64) (.type "float")), (.mk (PyData.keyHash P "frozenset") (.str "frozenset" 65) (.type "frozenset")), (.mk (PyData.keyHash P "property") (.str "property" 66) (.type "property")), (.mk (PyData.keyHash P "int") (.str "int" 67) (.type "int")), (.mk (PyData.keyHash P "list") (.str "list" 68) (.type "list")), (.mk (PyData.keyHash P "map") (.str "map" 69) (.type "map")), (.mk (PyData.keyHash P "object") (.str "object" 70) (.type "object")), (.mk (PyData.keyHash P "range") (.str "range" 71) (.type "range")), (.mk (PyData.keyHash P "reversed") (.str "reversed" 72) (.type "reversed")), (.mk (PyData.keyHash P "set") (.str "set" 73) (.type "set")), (.mk (PyData.keyHash P "slice") (.str "slice" 74) (.type "slice")), (.mk (PyData.keyHash P "staticmethod") (.str "staticmethod" 75) (.type "staticmethod")), (.mk (PyData.keyHash P "str") (.str "str" 76) (.type "str")), (.mk (PyData.keyHash P "super") (.str "super" 77) (.type "super")), (.mk (PyData.keyHash P "tuple") (.str "tuple" 78) (.type "tuple")), (.mk (PyData.keyHash P "type") (.str "type" 79) (.type "type")), (.mk (PyData.keyHash P "zip") (.str "zip" 80) (.type "zip")), (.mk (PyData.keyHash P "__debug__") (.str "__debug__" 81) (.bool true)), (.mk (PyData.keyHash P "BaseException") (.str "BaseException" 82) (.type "BaseException")), (.mk (PyData.keyHash P "BaseExceptionGroup") (.str "BaseExceptionGroup" 83) (.type "BaseExceptionGroup")), (.mk (PyData.keyHash P "Exception") (.str "Exception" 84) (.type "Exception")), (.mk (PyData.keyHash P "GeneratorExit") (.str "GeneratorExit" 85) (.type "GeneratorExit")), (.mk (PyData.keyHash P "KeyboardInterrupt") (.str "KeyboardInterrupt" 86) (.type "KeyboardInterrupt")), (.mk (PyData.keyHash P "SystemExit") (.str "SystemExit" 87) (.type "SystemExit")), (.mk (PyData.keyHash P "ArithmeticError") (.str "ArithmeticError" 88) (.type "ArithmeticError")), (.mk (PyData.keyHash P "AssertionError") (.str "AssertionError" 89) (.type "AssertionError")), (.mk (PyData.keyHash P "AttributeError") (.str "AttributeError" 90) (.type "AttributeError")), (.mk (PyData.keyHash P "BufferError") (.str "BufferError" 91) (.type "BufferError")), (.mk (PyData.keyHash P "EOFError") (.str "EOFError" 92) (.type "EOFError")), (.mk (PyData.keyHash P "ImportError") (.str "ImportError" 93) (.type "ImportError")), (.mk (PyData.keyHash P "LookupError") (.str "LookupError" 94) (.type "LookupError")), (.mk (PyData.keyHash P "MemoryError") (.str "MemoryError" 95) (.type "MemoryError")), (.mk (PyData.keyHash P "NameError") (.str "NameError" 96) (.type "NameError")), (.mk (PyData.keyHash P "OSError") (.str "OSError" 97) (.type "OSError")), (.mk (PyData.keyHash P "ReferenceError") (.str "ReferenceError" 98) (.type "ReferenceError")), (.mk (PyData.keyHash P "RuntimeError") (.str "RuntimeError" 99) (.type "RuntimeError")), (.mk (PyData.keyHash P "StopAsyncIteration") (.str "StopAsyncIteration" 100) (.type "StopAsyncIteration")), (.mk (PyData.keyHash P "StopIteration") (.str "StopIteration" 101) (.type "StopIteration")), (.mk (PyData.keyHash P "SyntaxError") (.str "SyntaxError" 102) (.type "SyntaxError")), (.mk (PyData.keyHash P "SystemError") (.str "SystemError" 103) (.type "SystemError")), (.mk (PyData.keyHash P "TypeError") (.str "TypeError" 104) (.type "TypeError")), (.mk (PyData.keyHash P "ValueError") (.str "ValueError" 105) (.type "ValueError")), (.mk (PyData.keyHash P "Warning") (.str "Warning" 106) (.type "Warning")), (.mk (PyData.keyHash P "FloatingPointError") (.str "FloatingPointError" 107) (.type "FloatingPointError")), (.mk (PyData.keyHash P "OverflowError") (.str "OverflowError" 108) (.type "OverflowError")), (.mk (PyData.keyHash P "ZeroDivisionError") (.str "ZeroDivisionError" 109) (.type "ZeroDivisionError")), (.mk (PyData.keyHash P "BytesWarning") (.str "BytesWarning" 110) (.type "BytesWarning")), (.mk (PyData.keyHash P "DeprecationWarning") (.str "DeprecationWarning" 111) (.type "DeprecationWarning")), (.mk (PyData.keyHash P "EncodingWarning") (.str "EncodingWarning" 112) (.type "EncodingWarning")), (.mk (PyData.keyHash P "FutureWarning") (.str "FutureWarning" 113) (.type "FutureWarning")), (.mk (PyData.keyHash P "ImportWarning") (.str "ImportWarning" 114) (.type "ImportWarning")), (.mk (PyData.keyHash P "PendingDeprecationWarning") (.str "PendingDeprecationWarning" 115) (.type "PendingDeprecationWarning")), (.mk (PyData.keyHash P "ResourceWarning") (.str "ResourceWarning" 116) (.type "ResourceWarning")), (.mk (PyData.keyHash P "RuntimeWarning") (.str "RuntimeWarning" 117) (.type "RuntimeWarning")), (.mk (PyData.keyHash P "SyntaxWarning") (.str "SyntaxWarning" 118) (.type "SyntaxWarning")), (.mk (PyData.keyHash P "UnicodeWarning") (.str "UnicodeWarning" 119) (.type "UnicodeWarning")), (.mk (PyData.keyHash P "UserWarning") (.str "UserWarning" 120) (.type "UserWarning")), (.mk (PyData.keyHash P "BlockingIOError") (.str "BlockingIOError" 121) (.type "BlockingIOError")), (.mk (PyData.keyHash P "ChildProcessError") (.str "ChildProcessError" 122) (.type "ChildProcessError")), (.mk (PyData.keyHash P "ConnectionError") (.str "ConnectionError" 123) (.type "ConnectionError")), (.mk (PyData.keyHash P "FileExistsError") (.str "FileExistsError" 124) (.type "FileExistsError")), (.mk (PyData.keyHash P "FileNotFoundError") (.str "FileNotFoundError" 125) (.type "FileNotFoundError")), (.mk (PyData.keyHash P "InterruptedError") (.str "InterruptedError" 126) (.type "InterruptedError")), (.mk (PyData.keyHash P "IsADirectoryError") (.str "IsADirectoryError" 127) (.type "IsADirectoryError")), (.mk (PyData.keyHash P "NotADirectoryError") (.str "NotADirectoryError" 128) (.type "NotADirectoryError")), (.mk (PyData.keyHash P "PermissionError") (.str "PermissionError" 129) (.type "PermissionError")), (.mk (PyData.keyHash P "ProcessLookupError") (.str "ProcessLookupError" 130) (.type "ProcessLookupError")), (.mk (PyData.keyHash P "TimeoutError") (.str "TimeoutError" 131) (.type "TimeoutError")), (.mk (PyData.keyHash P "IndentationError") (.str "IndentationError" 132) (.type "IndentationError")), (.mk (PyData.keyHash P "_IncompleteInputError") (.str "_IncompleteInputError" 133) (.type "_IncompleteInputError")), (.mk (PyData.keyHash P "IndexError") (.str "IndexError" 134) (.type "IndexError")), (.mk (PyData.keyHash P "KeyError") (.str "KeyError" 135) (.type "KeyError")), (.mk (PyData.keyHash P "ModuleNotFoundError") (.str "ModuleNotFoundError" 136) (.type "ModuleNotFoundError")), (.mk (PyData.keyHash P "NotImplementedError") (.str "NotImplementedError" 137) (.type "NotImplementedError")), (.mk (PyData.keyHash P "PythonFinalizationError") (.str "PythonFinalizationError" 138) (.type "PythonFinalizationError")), (.mk (PyData.keyHash P "RecursionError") (.str "RecursionError" 139) (.type "RecursionError")), (.mk (PyData.keyHash P "UnboundLocalError") (.str "UnboundLocalError" 140) (.type "UnboundLocalError")), (.mk (PyData.keyHash P "UnicodeError") (.str "UnicodeError" 141) (.type "UnicodeError")), (.mk (PyData.keyHash P "BrokenPipeError") (.str "BrokenPipeError" 142) (.type "BrokenPipeError")), (.mk (PyData.keyHash P "ConnectionAbortedError") (.str "ConnectionAbortedError" 143) (.type "ConnectionAbortedError")), (.mk (PyData.keyHash P "ConnectionRefusedError") (.str "ConnectionRefusedError" 144) (.type "ConnectionRefusedError")), (.mk (PyData.keyHash P "ConnectionResetError") (.str "ConnectionResetError" 145) (.type "ConnectionResetError")), (.mk (PyData.keyHash P "TabError") (.str "TabError" 146) (.type "TabError")), (.mk (PyData.keyHash P "UnicodeDecodeError") (.str "UnicodeDecodeError" 147) (.type "UnicodeDecodeError")), (.mk (PyData.keyHash P "UnicodeEncodeError") (.str "UnicodeEncodeError" 148) (.type "UnicodeEncodeError")), (.mk (PyData.keyHash P "UnicodeTranslateError") (.str "UnicodeTranslateError" 149) (.type "UnicodeTranslateError")), (.mk (PyData.keyHash P "ExceptionGroup") (.str "ExceptionGroup" 150) (.type "ExceptionGroup")), (.mk (PyData.keyHash P "EnvironmentError") (.str "EnvironmentError" 151) (.type "OSError")), (.mk (PyData.keyHash P "IOError") (.str "IOError" 152) (.type "OSError")), (.mk (PyData.keyHash P "open") (.str "open" 153) (.builtin "open")), (.mk (PyData.keyHash P "quit") (.str "quit" 154) (.builtin "builtins.quit#opaque")), (.mk (PyData.keyHash P "exit") (.str "exit" 155) (.builtin "builtins.exit#opaque")), (.mk (PyData.keyHash P "copyright") (.str "copyright" 156) (.builtin "builtins.copyright#opaque")), (.mk (PyData.keyHash P "credits") (.str "credits" 157) (.builtin "builtins.credits#opaque")), (.mk (PyData.keyHash P "license") (.str "license" 158) (.builtin "builtins.license#opaque")), (.mk (PyData.keyHash P "help") (.str "help" 159) (.builtin "builtins.help#opaque"))] 159) #[])
noncomputable def h0_1 (P : Params) : Obj := (.mk (.type "dict") none (.dict #[(.mk (PyData.keyHash P "builtins") (.str "builtins" 162) (.ref 4)), (.mk (PyData.keyHash P "__main__") (.str "__main__" 163) (.ref 5)), (.mk (PyData.keyHash P "_sre") (.str "_sre" 244) (.ref 12))] 3) #[])
noncomputable def h0_2 (P : Params) : Obj := (.mk .none none (.dict #[(.mk (PyData.keyHash P "\x69mport.loaded._sre") (.str "\x69mport.loaded._sre" 183) (.bool true)), (.mk (PyData.keyHash P "class._frozen_importlib.BuiltinImporter") (.str "class._frozen_importlib.BuiltinImporter" 185) (.ref 14)), (.mk (PyData.keyHash P "watched.\x69mport") (.str "watched.\x69mport" 206) (.ref 18)), (.mk (PyData.keyHash P "class._frozen_importlib.ModuleSpec") (.str "class._frozen_importlib.ModuleSpec" 216) (.ref 22)), (.mk (PyData.keyHash P "sys.modules.booked-epoch") (.str "sys.modules.booked-epoch" 245) (.int 3 0)), (.mk (PyData.keyHash P "\x69mport.later-laid._sre") (.str "\x69mport.later-laid._sre" 270) (.bool true)), (.mk (PyData.keyHash P "watched.library") (.str "watched.library" 272) (.ref 27)), (.mk (PyData.keyHash P "watched.library-objects") (.str "watched.library-objects" 0) (.str "\x0c" 0)), (.mk (PyData.keyHash P "watched.library-deep._sre") (.str "watched.library-deep._sre" 273) (.str "\x04\x00\x00\x0b\x04\x00\x00\x0b\x04\x00\x00\x03\x04\x00\x00\x0b\x08\x04dict\x02" 0))] 9) #[])
noncomputable def h0_3 (P : Params) : Obj := (.mk (.type "dict") none (.dict #[(.mk (PyData.keyHash P "__name__") (.str "__name__" 165) (.str "__main__" 164)), (.mk (PyData.keyHash P "__doc__") (.str "__doc__" 166) .none), (.mk (PyData.keyHash P "__package__") (.str "__package__" 167) .none), (.mk (PyData.keyHash P "__loader__") (.str "__loader__" 168) (.builtin "__main__.__loader__#opaque")), (.mk (PyData.keyHash P "__spec__") (.str "__spec__" 169) .none), (.mk (PyData.keyHash P "__annotations__") (.str "__annotations__" 170) (.ref 6)), (.mk (PyData.keyHash P "__builtins__") (.str "__builtins__" 171) (.ref 4)), (.mk (PyData.keyHash P "__file__") (.str "__file__" 173) (.str "/claim/cut.py" 172)), (.mk (PyData.keyHash P "__cached__") (.str "__cached__" 174) .none), (.mk (PyData.keyHash P "_sre") (.str "_sre" 275) (.ref 12))] 10) #[])
noncomputable def h0_4 (P : Params) : Obj := (.mk (.type "module") (some 0) .plain #[])
noncomputable def h0_5 (P : Params) : Obj := (.mk (.type "module") (some 3) .plain #[])
noncomputable def h0_6 (P : Params) : Obj := (.mk (.type "dict") none (.dict #[] 0) #[])
noncomputable def h0_7 (P : Params) : Obj := (.mk (.type "tuple") none (.seq #[] 0) #[])
noncomputable def h0_8 (P : Params) : Obj := (.mk .none none (.fields #[]) #[])
noncomputable def h0_9 (P : Params) : Obj := (.mk (.type "code") none (.fields #[(.str "<module>" 176), (.str "<module>" 177), (.str "/claim/cut.py" 178), .int 1 0, .int 0 0, .int 0 0, .int 0 0, .int 0 0, .ref 7, .bool false, .int 175 0, .ref 8, .none, .none, .none, .none, .int 179 0, .int 1 0, (.str "/claim/cut.py" 180)]) #[])
noncomputable def h0_10 (P : Params) : Obj := (.mk (.type "frame") none .plain #[(some (.ref 9)), (some (.ref 3)), (some (.ref 3)), none, (some (.str "__main__" 164)), none, (some (.ref 0))])
noncomputable def h0_11 (P : Params) : Obj := (.mk (.type "dict") none (.dict #[(.mk (PyData.keyHash P "__name__") (.str "__name__" 247) (.str "_sre" 246)), (.mk (PyData.keyHash P "__doc__") (.str "__doc__" 248) .none), (.mk (PyData.keyHash P "__package__") (.str "__package__" 250) (.str "" 249)), (.mk (PyData.keyHash P "__loader__") (.str "__loader__" 251) (.builtin "off-the-table:_sre.__loader__:shared#opaque")), (.mk (PyData.keyHash P "__spec__") (.str "__spec__" 252) (.builtin "off-the-table:_sre.__spec__:shared#opaque")), (.mk (PyData.keyHash P "compile") (.str "compile" 253) (.builtin "_sre.compile")), (.mk (PyData.keyHash P "template") (.str "template" 254) (.builtin "off-the-table:_sre.template:shared#opaque")), (.mk (PyData.keyHash P "getcodesize") (.str "getcodesize" 255) (.builtin "off-the-table:_sre.getcodesize:shared#opaque")), (.mk (PyData.keyHash P "ascii_iscased") (.str "ascii_iscased" 256) (.builtin "off-the-table:_sre.ascii_iscased:shared#opaque")), (.mk (PyData.keyHash P "unicode_iscased") (.str "unicode_iscased" 257) (.builtin "off-the-table:_sre.unicode_iscased:shared#opaque")), (.mk (PyData.keyHash P "ascii_tolower") (.str "ascii_tolower" 258) (.builtin "off-the-table:_sre.ascii_tolower:shared#opaque")), (.mk (PyData.keyHash P "unicode_tolower") (.str "unicode_tolower" 259) (.builtin "off-the-table:_sre.unicode_tolower:shared#opaque")), (.mk (PyData.keyHash P "MAGIC") (.str "MAGIC" 261) (.int 20230612 260)), (.mk (PyData.keyHash P "CODESIZE") (.str "CODESIZE" 263) (.int 4 262)), (.mk (PyData.keyHash P "MAXREPEAT") (.str "MAXREPEAT" 265) (.int 4294967295 264)), (.mk (PyData.keyHash P "MAXGROUPS") (.str "MAXGROUPS" 267) (.int 1073741823 266)), (.mk (PyData.keyHash P "copyright") (.str "copyright" 269) (.str " SRE 2.2.2 Copyright (c) 1997-2002 by Secret Labs AB " 268))] 17) #[])
noncomputable def h0_12 (P : Params) : Obj := (.mk (.type "module") (some 11) .plain #[])
noncomputable def h0_13 (P : Params) : Obj := (.mk (.type "dict") none (.dict #[(.mk (PyData.keyHash P "__module__") (.str "__module__" 189) (.str "_frozen_importlib" 186)), (.mk (PyData.keyHash P "__firstlineno__") (.str "__firstlineno__" 190) (.int 971 187)), (.mk (PyData.keyHash P "__doc__") (.str "__doc__" 191) (.builtin "_frozen_importlib.BuiltinImporter.__doc__:str#opaque")), (.mk (PyData.keyHash P "_ORIGIN") (.str "_ORIGIN" 192) (.str "built-in" 188)), (.mk (PyData.keyHash P "find_spec") (.str "find_spec" 193) (.builtin "_frozen_importlib.BuiltinImporter.find_spec#opaque")), (.mk (PyData.keyHash P "create_module") (.str "create_module" 194) (.builtin "_frozen_importlib.BuiltinImporter.create_module#opaque")), (.mk (PyData.keyHash P "exec_module") (.str "exec_module" 195) (.builtin "_frozen_importlib.BuiltinImporter.exec_module#opaque")), (.mk (PyData.keyHash P "get_code") (.str "get_code" 196) (.builtin "_frozen_importlib.BuiltinImporter.get_code#opaque")), (.mk (PyData.keyHash P "get_source") (.str "get_source" 197) (.builtin "_frozen_importlib.BuiltinImporter.get_source#opaque")), (.mk (PyData.keyHash P "is_package") (.str "is_package" 198) (.builtin "_frozen_importlib.BuiltinImporter.is_package#opaque")), (.mk (PyData.keyHash P "load_module") (.str "load_module" 199) (.builtin "_frozen_importlib.BuiltinImporter.load_module#opaque")), (.mk (PyData.keyHash P "__static_attributes__") (.str "__static_attributes__" 200) (.ref 15)), (.mk (PyData.keyHash P "__dict__") (.str "__dict__" 202) (.ref 16)), (.mk (PyData.keyHash P "__weakref__") (.str "__weakref__" 204) (.ref 17))] 14) #[])
noncomputable def h0_14 (P : Params) : Obj := (.mk (.type "type") none (.cls (.mk "BuiltinImporter" [.type "object"] [.ref 14, .type "object"] 13 "BuiltinImporter" true [] [] false none false)) #[])
noncomputable def h0_15 (P : Params) : Obj := (.mk (.type "tuple") none (.seq #[] 0) #[])
noncomputable def h0_16 (P : Params) : Obj := (.mk (.type "getset_descriptor") none (.fields #[(.str "__dict__" 201), .ref 14, .builtin "function.__dict__", .builtin "function.__dict__#set"]) #[])
noncomputable def h0_17 (P : Params) : Obj := (.mk (.type "getset_descriptor") none (.fields #[(.str "__weakref__" 203), .ref 14, .builtin "ExceptionGroup.__weakref__", .none]) #[])
noncomputable def h0_18 (P : Params) : Obj := (.mk .none none (.seq #[.int 13 0, (.str "\x06½\n__module__\x06º\x11_frozen_importlib\x06¾\x0f__firstlineno__\x04»\x00ϋ\x06¿\x07__doc__\t4_frozen_importlib.BuiltinImporter.__doc__:str#opaque\x06À\x07_ORIGIN\x06¼\x08built-in\x06Á\tfind_spec\t2_frozen_importlib.BuiltinImporter.find_spec#opaque\x06Â\x0dcreate_module\t6_frozen_importlib.BuiltinImporter.create_module#opaque\x06Ã\x0bexec_module\t4_frozen_importlib.BuiltinImporter.exec_module#opaque\x06Ä\x08get_code\t1_frozen_importlib.BuiltinImporter.get_code#opaque\x06Å\nget_source\t3_frozen_importlib.BuiltinImporter.get_source#opaque\x06Æ\nis_package\t3_frozen_importlib.BuiltinImporter.is_package#opaque\x06Ç\x0bload_module\t4_frozen_importlib.BuiltinImporter.load_module#opaque\x06È\x15__static_attributes__\x04\x00\x00\x0f\x06Ê\x08__dict__\x04\x00\x00\x10\x06Ì\x0b__weakref__\x04\x00\x00\x11" 0), .bool true, .bool true, (.str "" 205), .int 21 0, (.str "\x06ã\n__module__\x06Ù\x11_frozen_importlib\x06ä\x0f__firstlineno__\x04Ú\x00Ȳ\x06å\x07__doc__\t/_frozen_importlib.ModuleSpec.__doc__:str#opaque\x06æ\x08__init__\t,_frozen_importlib.ModuleSpec.__init__#opaque\x06ç\x08__repr__\t,_frozen_importlib.ModuleSpec.__repr__#opaque\x06è\x06__eq__\t*_frozen_importlib.ModuleSpec.__eq__#opaque\x06é\x06cached\t*_frozen_importlib.ModuleSpec.cached#opaque\x06ê\x06parent\t*_frozen_importlib.ModuleSpec.parent#opaque\x06ë\x0chas_location\t0_frozen_importlib.ModuleSpec.has_location#opaque\x06ì\x15__static_attributes__\x04\x00\x00\x17\x06î\x08__dict__\x04\x00\x00\x18\x06ð\x0b__weakref__\x04\x00\x00\x19\x06ñ\x08__hash__\x00" 0), .bool true, .bool true, (.str "" 242)] 1) #[])
noncomputable def h0_19 (P : Params) : Obj := (.mk (.type "list") none (.seq #[] 0) #[])
noncomputable def h0_20 (P : Params) : Obj := (.mk (.type "dict") none (.dict #[(.mk (PyData.keyHash P "name") (.str "name" 208) (.str "_sre" 207)), (.mk (PyData.keyHash P "loader") (.str "loader" 209) (.ref 14)), (.mk (PyData.keyHash P "origin") (.str "origin" 210) (.str "built-in" 184)), (.mk (PyData.keyHash P "loader_state") (.str "loader_state" 211) .none), (.mk (PyData.keyHash P "submodule_search_locations") (.str "submodule_search_locations" 212) .none), (.mk (PyData.keyHash P "_uninitialized_submodules") (.str "_uninitialized_submodules" 213) (.ref 19)), (.mk (PyData.keyHash P "_set_fileattr") (.str "_set_fileattr" 214) (.bool false)), (.mk (PyData.keyHash P "_cached") (.str "_cached" 215) .none), (.mk (PyData.keyHash P "_initializing") (.str "_initializing" 243) (.bool false))] 9) #[])
noncomputable def h0_21 (P : Params) : Obj := (.mk (.type "dict") none (.dict #[(.mk (PyData.keyHash P "__module__") (.str "__module__" 227) (.str "_frozen_importlib" 217)), (.mk (PyData.keyHash P "__firstlineno__") (.str "__firstlineno__" 228) (.int 562 218)), (.mk (PyData.keyHash P "__doc__") (.str "__doc__" 229) (.builtin "_frozen_importlib.ModuleSpec.__doc__:str#opaque")), (.mk (PyData.keyHash P "__init__") (.str "__init__" 230) (.builtin "_frozen_importlib.ModuleSpec.__init__#opaque")), (.mk (PyData.keyHash P "__repr__") (.str "__repr__" 231) (.builtin "_frozen_importlib.ModuleSpec.__repr__#opaque")), (.mk (PyData.keyHash P "__eq__") (.str "__eq__" 232) (.builtin "_frozen_importlib.ModuleSpec.__eq__#opaque")), (.mk (PyData.keyHash P "cached") (.str "cached" 233) (.builtin "_frozen_importlib.ModuleSpec.cached#opaque")), (.mk (PyData.keyHash P "parent") (.str "parent" 234) (.builtin "_frozen_importlib.ModuleSpec.parent#opaque")), (.mk (PyData.keyHash P "has_location") (.str "has_location" 235) (.builtin "_frozen_importlib.ModuleSpec.has_location#opaque")), (.mk (PyData.keyHash P "__static_attributes__") (.str "__static_attributes__" 236) (.ref 23)), (.mk (PyData.keyHash P "__dict__") (.str "__dict__" 238) (.ref 24)), (.mk (PyData.keyHash P "__weakref__") (.str "__weakref__" 240) (.ref 25)), (.mk (PyData.keyHash P "__hash__") (.str "__hash__" 241) .none)] 13) #[])
noncomputable def h0_22 (P : Params) : Obj := (.mk (.type "type") none (.cls (.mk "ModuleSpec" [.type "object"] [.ref 22, .type "object"] 21 "ModuleSpec" true [] [] false none false)) #[])
noncomputable def h0_23 (P : Params) : Obj := (.mk (.type "tuple") none (.seq #[(.str "_cached" 219), (.str "_set_fileattr" 220), (.str "_uninitialized_submodules" 221), (.str "loader" 222), (.str "loader_state" 223), (.str "name" 224), (.str "origin" 225), (.str "submodule_search_locations" 226)] 0) #[])
noncomputable def h0_24 (P : Params) : Obj := (.mk (.type "getset_descriptor") none (.fields #[(.str "__dict__" 237), .ref 22, .builtin "function.__dict__", .builtin "function.__dict__#set"]) #[])
noncomputable def h0_25 (P : Params) : Obj := (.mk (.type "getset_descriptor") none (.fields #[(.str "__weakref__" 239), .ref 22, .builtin "ExceptionGroup.__weakref__", .none]) #[])
noncomputable def h0_26 (P : Params) : Obj := (.mk (.ref 22) (some 20) .plain #[])
noncomputable def h0_27 (P : Params) : Obj := (.mk .none none (.seq #[.int 11 0, (.str (@PySem.Str.mk #[6, 247, 8, 95, 95, 110, 97, 109, 101, 95, 95, 6, 246, 4, 95, 115, 114, 101, 6, 248, 7, 95, 95, 100, 111, 99, 95, 95, 0, 6, 250, 11, 95, 95, 112, 97, 99, 107, 97, 103, 101, 95, 95, 6, 249, 0, 6, 251, 10, 95, 95, 108, 111, 97, 100, 101, 114, 95, 95, 4, 0, 0, 14, 6, 252, 8, 95, 95, 115, 112, 101, 99, 95, 95, 4, 0, 0, 26, 6, 253, 7, 99, 111, 109, 112, 105, 108, 101, 9, 12, 95, 115, 114, 101, 46, 99, 111, 109, 112, 105, 108, 101, 6, 254, 8, 116, 101, 109, 112, 108, 97, 116, 101, 9, 13, 95, 115, 114, 101, 46, 116, 101, 109, 112, 108, 97, 116, 101, 6, 255, 11, 103, 101, 116, 99, 111, 100, 101, 115, 105, 122, 101, 9, 16, 95, 115, 114, 101, 46, 103, 101, 116, 99, 111, 100, 101, 115, 105, 122, 101, 6, 256, 13, 97, 115, 99, 105, 105, 95, 105, 115, 99, 97, 115, 101, 100, 9, 18, 95, 115, 114, 101, 46, 97, 115, 99, 105, 105, 95, 105, 115, 99, 97, 115, 101, 100, 6, 257, 15, 117, 110, 105, 99, 111, 100, 101, 95, 105, 115, 99, 97, 115, 101, 100, 9, 20, 95, 115, 114, 101, 46, 117, 110, 105, 99, 111, 100, 101, 95, 105, 115, 99, 97, 115, 101, 100, 6, 258, 13, 97, 115, 99, 105, 105, 95, 116, 111, 108, 111, 119, 101, 114, 9, 18, 95, 115, 114, 101, 46, 97, 115, 99, 105, 105, 95, 116, 111, 108, 111, 119, 101, 114, 6, 259, 15, 117, 110, 105, 99, 111, 100, 101, 95, 116, 111, 108, 111, 119, 101, 114, 9, 20, 95, 115, 114, 101, 46, 117, 110, 105, 99, 111, 100, 101, 95, 116, 111, 108, 111, 119, 101, 114, 6, 261, 5, 77, 65, 71, 73, 67, 4, 260, 0, 20230612, 6, 263, 8, 67, 79, 68, 69, 83, 73, 90, 69, 4, 262, 0, 4, 6, 265, 9, 77, 65, 88, 82, 69, 80, 69, 65, 84, 4, 264, 0, 4294967295, 6, 267, 9, 77, 65, 88, 71, 82, 79, 85, 80, 83, 4, 266, 0, 1073741823, 6, 269, 9, 99, 111, 112, 121, 114, 105, 103, 104, 116, 6, 268, 53, 32, 83, 82, 69, 32, 50, 46, 50, 46, 50, 32, 67, 111, 112, 121, 114, 105, 103, 104, 116, 32, 40, 99, 41, 32, 49, 57, 57, 55, 45, 50, 48, 48, 50, 32, 98, 121, 32, 83, 101, 99, 114, 101, 116, 32, 76, 97, 98, 115, 32, 65, 66, 32]) 0), .bool true, .bool false, (.str "_sre" 271)] 0) #[])
noncomputable def heap0 (P : Params) : Heap := Heap.mk (Array.mk [h0_0 P, h0_1 P, h0_2 P, h0_3 P, h0_4 P, h0_5 P, h0_6 P, h0_7 P, h0_8 P, h0_9 P, h0_10 P, h0_11 P, h0_12 P, h0_13 P, h0_14 P, h0_15 P, h0_16 P, h0_17 P, h0_18 P, h0_19 P, h0_20 P, h0_21 P, h0_22 P, h0_23 P, h0_24 P, h0_25 P, h0_26 P, h0_27 P]) (@PySem.Life.mk [] [] [] 0 [] [] @Bool.false (@List.toArray @Nat []) [] 0 @Bool.false @Bool.false @Bool.false (0 : Int) [(2000 : Int), (10 : Int), (10 : Int)] @Bool.false 0 @Bool.true [] [] 0 @Bool.false)
noncomputable def hs_11 (P : Params) : Obj := (.mk (.type "dict") none (.dict #[(.mk (PyData.keyHash P "__name__") (.str "__name__" 247) (.str "_sre" 246)), (.mk (PyData.keyHash P "__doc__") (.str "__doc__" 248) .none), (.mk (PyData.keyHash P "__package__") (.str "__package__" 250) (.str "" 249)), (.mk (PyData.keyHash P "__loader__") (.str "__loader__" 251) (.ref 14)), (.mk (PyData.keyHash P "__spec__") (.str "__spec__" 252) (.ref 26)), (.mk (PyData.keyHash P "compile") (.str "compile" 253) (.builtin "_sre.compile")), (.mk (PyData.keyHash P "template") (.str "template" 254) (.builtin "_sre.template")), (.mk (PyData.keyHash P "getcodesize") (.str "getcodesize" 255) (.builtin "_sre.getcodesize")), (.mk (PyData.keyHash P "ascii_iscased") (.str "ascii_iscased" 256) (.builtin "_sre.ascii_iscased")), (.mk (PyData.keyHash P "unicode_iscased") (.str "unicode_iscased" 257) (.builtin "_sre.unicode_iscased")), (.mk (PyData.keyHash P "ascii_tolower") (.str "ascii_tolower" 258) (.builtin "_sre.ascii_tolower")), (.mk (PyData.keyHash P "unicode_tolower") (.str "unicode_tolower" 259) (.builtin "_sre.unicode_tolower")), (.mk (PyData.keyHash P "MAGIC") (.str "MAGIC" 261) (.int 20230612 260)), (.mk (PyData.keyHash P "CODESIZE") (.str "CODESIZE" 263) (.int 4 262)), (.mk (PyData.keyHash P "MAXREPEAT") (.str "MAXREPEAT" 265) (.int 4294967295 264)), (.mk (PyData.keyHash P "MAXGROUPS") (.str "MAXGROUPS" 267) (.int 1073741823 266)), (.mk (PyData.keyHash P "copyright") (.str "copyright" 269) (.str " SRE 2.2.2 Copyright (c) 1997-2002 by Secret Labs AB " 268))] 17) #[])
noncomputable def heapS (P : Params) : Heap := Heap.mk (Array.mk [h0_0 P, h0_1 P, h0_2 P, h0_3 P, h0_4 P, h0_5 P, h0_6 P, h0_7 P, h0_8 P, h0_9 P, h0_10 P, hs_11 P, h0_12 P, h0_13 P, h0_14 P, h0_15 P, h0_16 P, h0_17 P, h0_18 P, h0_19 P, h0_20 P, h0_21 P, h0_22 P, h0_23 P, h0_24 P, h0_25 P, h0_26 P, h0_27 P]) (@PySem.Life.mk [] [] [] 0 [] [] @Bool.false (@List.toArray @Nat []) [] 0 @Bool.false @Bool.false @Bool.false (0 : Int) [(2000 : Int), (10 : Int), (10 : Int)] @Bool.false 0 @Bool.true [] [] 0 @Bool.false)
theorem h_imp (w : World) : importEnds treeTable (opening p9) w 799 (start (opening p9)).1 (start (opening p9)).2 = some (Shared.mk (heapS w.params) (Array.mk []) (@PySem.Drawn.mk 0 0 0 0) 276 (start (opening p9)).1.os) := by
  rw [show @importEnds = _ from PySem.W.Fast.te10274390034422433532, show treeTable = _ from PySem.W.Fast.te14364793385576792824]
  kernel_rfl
theorem h_open : ∀ w : World, (fencedOpening treeTable p9 w 16766).map (fun s => (s.heap, s.gens, s.drawn, s.toks)) = some (heap0 w.params, Array.mk [], (@PySem.Drawn.mk 0 0 0 0), 276) := open_cut h_imp (by kernel_rfl) (fun w => funext fun os => by kernel_rfl)
theorem h_size (w : World) : ((heap0 w.params).isNs mainGlobals && (Array.mk ([] : List GenState)).size == 0, (heap0 w.params).objs.size, (heap0 w.params).nsMap mainGlobals "__annotations__") = (true, 28, ann9) := by kernel_rfl
noncomputable def hp_28 (P : Params) : Obj := (.mk (.type "tuple") none (.seq #[] 0) #[])
noncomputable def hp_29 (P : Params) : Obj := (.mk .none none (.fields #[]) #[])
noncomputable def hp_30 (P : Params) : Obj := (.mk (.type "code") none (.fields #[(.str "<module>" 277), (.str "<module>" 278), (.str "/claim/cut.py" 279), .int 1 0, .int 0 0, .int 0 0, .int 0 0, .int 0 0, .ref 28, .bool false, .int 276 0, .ref 29, .none, .none, .none, .none, .int 280 0, .int 1 0, (.str "/claim/cut.py" 281)]) #[])
noncomputable def hp_31 (P : Params) : Obj := (.mk (.type "frame") none .plain #[(some (.ref 30)), (some (.ref 3)), (some (.ref 3)), none, (some (.str "__main__" 164)), none, (some (.ref 0))])
noncomputable def heapP (P : Params) : Heap := Heap.mk (Array.mk [h0_0 P, h0_1 P, h0_2 P, h0_3 P, h0_4 P, h0_5 P, h0_6 P, h0_7 P, h0_8 P, h0_9 P, h0_10 P, h0_11 P, h0_12 P, h0_13 P, h0_14 P, h0_15 P, h0_16 P, h0_17 P, h0_18 P, h0_19 P, h0_20 P, h0_21 P, h0_22 P, h0_23 P, h0_24 P, h0_25 P, h0_26 P, h0_27 P, hp_28 P, hp_29 P, hp_30 P, hp_31 P]) (@PySem.Life.mk [] [] [] 0 [] [] @Bool.false (@List.toArray @Nat []) [] 0 @Bool.false @Bool.false @Bool.false (0 : Int) [(2000 : Int), (10 : Int), (10 : Int)] @Bool.false 0 @Bool.true [] [] 0 @Bool.false)
theorem h_pre (w : World) (os : OsState) : topGo treeTable p9 w 28 ann9 12 (Shared.mk (heap0 w.params) (Array.mk []) (@PySem.Drawn.mk 0 0 0 0) 276 os) (topStub p9) = some ((Shared.mk (heapP w.params) (Array.mk []) (@PySem.Drawn.mk 0 0 0 0) 282 os), (Thread.mk (denote treeTable c9) c9 (@PySem.Pos.mk 0 0 0 0) B9)) := by
  rw [show @topGo = _ from PySem.W.Fast.te15667345088766844465, show @denote = _ from PySem.W.Fast.te11892475500146522536, show treeTable = _ from PySem.W.Fast.te14364793385576792824]
  kernel_rfl
noncomputable def treeK (P : Params) : BT := (.node (h0_0 P) (.node (h0_1 P) (.node (h0_3 P) (.node (h0_7 P) (.node (h0_15 P) (.node (hp_31 P) .nil .nil) .nil) (.node (h0_23 P) .nil .nil)) (.node (h0_11 P) (.node (h0_19 P) .nil .nil) (.node (h0_27 P) .nil .nil))) (.node (h0_5 P) (.node (h0_9 P) (.node (h0_17 P) .nil .nil) (.node (h0_25 P) .nil .nil)) (.node (h0_13 P) (.node (h0_21 P) .nil .nil) (.node (hp_29 P) .nil .nil)))) (.node (h0_2 P) (.node (h0_4 P) (.node (h0_8 P) (.node (h0_16 P) .nil .nil) (.node (h0_24 P) .nil .nil)) (.node (h0_12 P) (.node (h0_20 P) .nil .nil) (.node (hp_28 P) .nil .nil))) (.node (h0_6 P) (.node (h0_10 P) (.node (h0_18 P) .nil .nil) (.node (h0_26 P) .nil .nil)) (.node (h0_14 P) (.node (h0_22 P) .nil .nil) (.node (hp_30 P) .nil .nil)))))
theorem h_block (w : World) (os : OsState) : segRun treeTable p9 w 28 ann9 1 1 (Shared.mk (heapP w.params) (Array.mk []) (@PySem.Drawn.mk 0 0 0 0) 282 os) (blockOf b9 e9 c9 (@PySem.Pos.mk 0 0 0 0) B9) = some (Flow.next, (SharedT.mk (treeK w.params) 32 (@PySem.Life.mk [] [] [] 0 [] [] @Bool.false (@List.toArray @Nat []) [] 0 @Bool.false @Bool.false @Bool.false (0 : Int) [(2000 : Int), (10 : Int), (10 : Int)] @Bool.false 0 @Bool.true [] [] 0 @Bool.false) (Array.mk []) (@PySem.Drawn.mk 0 0 0 0) 282 os).abs, c9, (@PySem.Pos.mk 0 0 0 0)) := by
  rw [show @segRun = _ from PySem.W.Fast.te14374325043358763698, show treeTable = _ from PySem.W.Fast.te14364793385576792824]
  kernel_rfl
noncomputable def hG0_3 (P : Params) : Obj := (.mk (.type "dict") none (.dict #[(.mk (PyData.keyHash P "__name__") (.str "__name__" 165) (.str "cpy313.idlelib.pyparse" 289)), (.mk (PyData.keyHash P "__doc__") (.str "__doc__" 166) .none), (.mk (PyData.keyHash P "__package__") (.str "__package__" 167) .none), (.mk (PyData.keyHash P "__loader__") (.str "__loader__" 168) (.builtin "__main__.__loader__#opaque")), (.mk (PyData.keyHash P "__spec__") (.str "__spec__" 169) .none), (.mk (PyData.keyHash P "__annotations__") (.str "__annotations__" 170) (.ref 6)), (.mk (PyData.keyHash P "__builtins__") (.str "__builtins__" 171) (.ref 4)), (.mk (PyData.keyHash P "__file__") (.str "__file__" 173) (.str "/claim/cut.py" 172)), (.mk (PyData.keyHash P "__cached__") (.str "__cached__" 174) .none), (.mk (PyData.keyHash P "_sre") (.str "_sre" 275) (.ref 12)), (.mk (PyData.keyHash P "_wall") (.str "_wall" 288) (.ref 38)), (.mk (PyData.keyHash P "_twin_re_2") (.str "_twin_re_2" 334) (.ref 43)), (.mk (PyData.keyHash P "_twin_re_3") (.str "_twin_re_3" 609) (.ref 48))] 13) #[])
noncomputable def hG0_29 (P : Params) : Obj := (.mk .none none (.fields #[.int 2 0, .int 0 0, .ref 37]) #[])
noncomputable def hG0_32 (P : Params) : Obj := (.mk (.type "tuple") none (.seq #[] 0) #[])
noncomputable def hG0_33 (P : Params) : Obj := (.mk .none none (.fields #[]) #[])
noncomputable def hG0_34 (P : Params) : Obj := (.mk (.type "tuple") none (.seq #[(.str "k" 285)] 0) #[])
noncomputable def hG0_35 (P : Params) : Obj := (.mk (.type "tuple") none (.seq #[] 0) #[])
noncomputable def hG0_36 (P : Params) : Obj := (.mk .none none (.func (.mk "_wall" "_wall" (fnA (stAt 0 b9)) (.stmts (fnB (stAt 0 b9))) (scB (stAt 0 b9)) 0 [] .none .none .none .none none .none .none 0)) #[])
noncomputable def hG0_37 (P : Params) : Obj := (.mk (.type "code") none (.fields #[(.str "_wall" 282), (.str "_wall" 283), (.str "/claim/cut.py" 284), .int 2 0, .int 1 0, .int 0 0, .int 0 0, .int 3 0, .ref 32, .bool true, .int 276 0, .ref 33, .none, .ref 34, .ref 35, .ref 36, .int 286 0, .int 2 0, (.str "/claim/cut.py" 287)]) #[])
noncomputable def hG0_38 (P : Params) : Obj := (.mk (.type "function") none (.func (.mk "_wall" "_wall" (fnA (stAt 0 b9)) (.stmts (fnB (stAt 0 b9))) (scB (stAt 0 b9)) 3 [] .none .none .none (.str "__main__" 164) none (.ref 37) .none 0)) #[])
noncomputable def hG0_39 (P : Params) : Obj := (.mk (.type "list") none (.seq #[.int 14 294, .int 4 295, .int 0 296, .int 1 297, .int 4294967295 298, .int 24 299, .int 11 300, .int 0 301, .int 4294967295 302, .int 13 303, .int 6 304, .int 16 305, .int 32 306, .int 16 307, .int 9 308, .int 0 309, .int 1 310, .int 23 311, .int 16 312, .int 0 313, .int 1 314, .int 16 315, .int 35 316, .int 13 317, .int 4 318, .int 8 319, .int 13 320, .int 0 321, .int 24 322, .int 5 323, .int 0 324, .int 4294967295 325, .int 2 326, .int 1 327, .int 18 328, .int 16 329, .int 10 330, .int 1 331] 0) #[])
noncomputable def hG0_40 (P : Params) : Obj := (.mk (.type "dict") none (.dict #[] 0) #[])
noncomputable def hG0_41 (P : Params) : Obj := (.mk (.type "tuple") none (.seq #[.none] 0) #[])
noncomputable def hG0_42 (P : Params) : Obj := (.mk (.type "tuple") none (.seq #[.int 14 0, .int 4 0, .int 0 0, .int 1 0, .int 4294967295 0, .int 24 0, .int 11 0, .int 0 0, .int 4294967295 0, .int 13 0, .int 6 0, .int 16 0, .int 32 0, .int 16 0, .int 9 0, .int 0 0, .int 1 0, .int 23 0, .int 16 0, .int 0 0, .int 1 0, .int 16 0, .int 35 0, .int 13 0, .int 4 0, .int 8 0, .int 13 0, .int 0 0, .int 24 0, .int 5 0, .int 0 0, .int 4294967295 0, .int 2 0, .int 1 0, .int 18 0, .int 16 0, .int 10 0, .int 1 0] 0) #[])
noncomputable def hG0_43 (P : Params) : Obj := (.mk (.type "re.Pattern") none (.fields #[(.str "\n    [ \\t]*\n    (?: \\# \\S .* )?\n    \\n\n" 292), .int 96 333, .int 0 0, .none, .none, .ref 42, .int 0 0]) #[])
noncomputable def hG0_44 (P : Params) : Obj := (.mk (.type "list") none (.seq #[.int 14 338, .int 9 339, .int 4 340, .int 1 341, .int 4294967295 342, .int 16 343, .int 34 344, .int 16 345, .int 39 346, .int 0 347, .int 7 348, .int 72 349, .int 16 350, .int 34 351, .int 16 352, .int 34 353, .int 16 354, .int 34 355, .int 24 356, .int 12 357, .int 0 358, .int 4294967295 359, .int 13 360, .int 7 361, .int 21 362, .int 16 363, .int 34 364, .int 16 365, .int 92 366, .int 0 367, .int 1 368, .int 23 369, .int 37 370, .int 0 371, .int 4294967295 372, .int 7 373, .int 6 374, .int 16 375, .int 92 376, .int 3 377, .int 15 378, .int 15 379, .int 13 380, .int 16 381, .int 34 382, .int 5 383, .int 7 384, .int 0 385, .int 16 386, .int 34 387, .int 16 388, .int 34 389, .int 1 390, .int 15 391, .int 2 392, .int 0 393, .int 24 394, .int 12 395, .int 0 396, .int 4294967295 397, .int 13 398, .int 7 399, .int 21 400, .int 16 401, .int 34 402, .int 16 403, .int 92 404, .int 0 405, .int 1 406, .int 18 407, .int 23 408, .int 9 409, .int 0 410, .int 1 411, .int 16 412, .int 34 413, .int 16 414, .int 34 415, .int 16 416, .int 34 417, .int 18 418, .int 15 419, .int 186 420, .int 56 421, .int 16 422, .int 34 423, .int 24 424, .int 17 425, .int 0 426, .int 4294967295 427, .int 13 428, .int 12 429, .int 21 430, .int 9 431, .int 1024 432, .int 4 433, .int 268435456 434, .int 0 435, .int 0 436, .int 0 437, .int 0 438, .int 0 439, .int 0 440, .int 1 441, .int 23 442, .int 24 443, .int 0 444, .int 4294967295 445, .int 16 446, .int 92 447, .int 3 448, .int 24 449, .int 17 450, .int 0 451, .int 4294967295 452, .int 13 453, .int 12 454, .int 21 455, .int 9 456, .int 1024 457, .int 4 458, .int 268435456 459, .int 0 460, .int 0 461, .int 0 462, .int 0 463, .int 0 464, .int 0 465, .int 1 466, .int 18 467, .int 24 468, .int 6 469, .int 0 470, .int 1 471, .int 16 472, .int 34 473, .int 1 474, .int 15 475, .int 130 476, .int 72 477, .int 16 478, .int 39 479, .int 16 480, .int 39 481, .int 16 482, .int 39 483, .int 24 484, .int 12 485, .int 0 486, .int 4294967295 487, .int 13 488, .int 7 489, .int 21 490, .int 16 491, .int 39 492, .int 16 493, .int 92 494, .int 0 495, .int 1 496, .int 23 497, .int 37 498, .int 0 499, .int 4294967295 500, .int 7 501, .int 6 502, .int 16 503, .int 92 504, .int 3 505, .int 15 506, .int 15 507, .int 13 508, .int 16 509, .int 39 510, .int 5 511, .int 7 512, .int 0 513, .int 16 514, .int 39 515, .int 16 516, .int 39 517, .int 1 518, .int 15 519, .int 2 520, .int 0 521, .int 24 522, .int 12 523, .int 0 524, .int 4294967295 525, .int 13 526, .int 7 527, .int 21 528, .int 16 529, .int 39 530, .int 16 531, .int 92 532, .int 0 533, .int 1 534, .int 18 535, .int 23 536, .int 9 537, .int 0 538, .int 1 539, .int 16 540, .int 39 541, .int 16 542, .int 39 543, .int 16 544, .int 39 545, .int 18 546, .int 15 547, .int 58 548, .int 56 549, .int 16 550, .int 39 551, .int 24 552, .int 17 553, .int 0 554, .int 4294967295 555, .int 13 556, .int 12 557, .int 21 558, .int 9 559, .int 1024 560, .int 128 561, .int 268435456 562, .int 0 563, .int 0 564, .int 0 565, .int 0 566, .int 0 567, .int 0 568, .int 1 569, .int 23 570, .int 24 571, .int 0 572, .int 4294967295 573, .int 16 574, .int 92 575, .int 3 576, .int 24 577, .int 17 578, .int 0 579, .int 4294967295 580, .int 13 581, .int 12 582, .int 21 583, .int 9 584, .int 1024 585, .int 128 586, .int 268435456 587, .int 0 588, .int 0 589, .int 0 590, .int 0 591, .int 0 592, .int 0 593, .int 1 594, .int 18 595, .int 24 596, .int 6 597, .int 0 598, .int 1 599, .int 16 600, .int 39 601, .int 1 602, .int 15 603, .int 2 604, .int 0 605, .int 1 606] 0) #[])
noncomputable def hG0_45 (P : Params) : Obj := (.mk (.type "dict") none (.dict #[] 0) #[])
noncomputable def hG0_46 (P : Params) : Obj := (.mk (.type "tuple") none (.seq #[.none] 0) #[])
noncomputable def hG0_47 (P : Params) : Obj := (.mk (.type "tuple") none (.seq #[.int 14 0, .int 9 0, .int 4 0, .int 1 0, .int 4294967295 0, .int 16 0, .int 34 0, .int 16 0, .int 39 0, .int 0 0, .int 7 0, .int 72 0, .int 16 0, .int 34 0, .int 16 0, .int 34 0, .int 16 0, .int 34 0, .int 24 0, .int 12 0, .int 0 0, .int 4294967295 0, .int 13 0, .int 7 0, .int 21 0, .int 16 0, .int 34 0, .int 16 0, .int 92 0, .int 0 0, .int 1 0, .int 23 0, .int 37 0, .int 0 0, .int 4294967295 0, .int 7 0, .int 6 0, .int 16 0, .int 92 0, .int 3 0, .int 15 0, .int 15 0, .int 13 0, .int 16 0, .int 34 0, .int 5 0, .int 7 0, .int 0 0, .int 16 0, .int 34 0, .int 16 0, .int 34 0, .int 1 0, .int 15 0, .int 2 0, .int 0 0, .int 24 0, .int 12 0, .int 0 0, .int 4294967295 0, .int 13 0, .int 7 0, .int 21 0, .int 16 0, .int 34 0, .int 16 0, .int 92 0, .int 0 0, .int 1 0, .int 18 0, .int 23 0, .int 9 0, .int 0 0, .int 1 0, .int 16 0, .int 34 0, .int 16 0, .int 34 0, .int 16 0, .int 34 0, .int 18 0, .int 15 0, .int 186 0, .int 56 0, .int 16 0, .int 34 0, .int 24 0, .int 17 0, .int 0 0, .int 4294967295 0, .int 13 0, .int 12 0, .int 21 0, .int 9 0, .int 1024 0, .int 4 0, .int 268435456 0, .int 0 0, .int 0 0, .int 0 0, .int 0 0, .int 0 0, .int 0 0, .int 1 0, .int 23 0, .int 24 0, .int 0 0, .int 4294967295 0, .int 16 0, .int 92 0, .int 3 0, .int 24 0, .int 17 0, .int 0 0, .int 4294967295 0, .int 13 0, .int 12 0, .int 21 0, .int 9 0, .int 1024 0, .int 4 0, .int 268435456 0, .int 0 0, .int 0 0, .int 0 0, .int 0 0, .int 0 0, .int 0 0, .int 1 0, .int 18 0, .int 24 0, .int 6 0, .int 0 0, .int 1 0, .int 16 0, .int 34 0, .int 1 0, .int 15 0, .int 130 0, .int 72 0, .int 16 0, .int 39 0, .int 16 0, .int 39 0, .int 16 0, .int 39 0, .int 24 0, .int 12 0, .int 0 0, .int 4294967295 0, .int 13 0, .int 7 0, .int 21 0, .int 16 0, .int 39 0, .int 16 0, .int 92 0, .int 0 0, .int 1 0, .int 23 0, .int 37 0, .int 0 0, .int 4294967295 0, .int 7 0, .int 6 0, .int 16 0, .int 92 0, .int 3 0, .int 15 0, .int 15 0, .int 13 0, .int 16 0, .int 39 0, .int 5 0, .int 7 0, .int 0 0, .int 16 0, .int 39 0, .int 16 0, .int 39 0, .int 1 0, .int 15 0, .int 2 0, .int 0 0, .int 24 0, .int 12 0, .int 0 0, .int 4294967295 0, .int 13 0, .int 7 0, .int 21 0, .int 16 0, .int 39 0, .int 16 0, .int 92 0, .int 0 0, .int 1 0, .int 18 0, .int 23 0, .int 9 0, .int 0 0, .int 1 0, .int 16 0, .int 39 0, .int 16 0, .int 39 0, .int 16 0, .int 39 0, .int 18 0, .int 15 0, .int 58 0, .int 56 0, .int 16 0, .int 39 0, .int 24 0, .int 17 0, .int 0 0, .int 4294967295 0, .int 13 0, .int 12 0, .int 21 0, .int 9 0, .int 1024 0, .int 128 0, .int 268435456 0, .int 0 0, .int 0 0, .int 0 0, .int 0 0, .int 0 0, .int 0 0, .int 1 0, .int 23 0, .int 24 0, .int 0 0, .int 4294967295 0, .int 16 0, .int 92 0, .int 3 0, .int 24 0, .int 17 0, .int 0 0, .int 4294967295 0, .int 13 0, .int 12 0, .int 21 0, .int 9 0, .int 1024 0, .int 128 0, .int 268435456 0, .int 0 0, .int 0 0, .int 0 0, .int 0 0, .int 0 0, .int 0 0, .int 1 0, .int 18 0, .int 24 0, .int 6 0, .int 0 0, .int 1 0, .int 16 0, .int 39 0, .int 1 0, .int 15 0, .int 2 0, .int 0 0, .int 1 0] 0) #[])
noncomputable def hG0_48 (P : Params) : Obj := (.mk (.type "re.Pattern") none (.fields #[(.str "\n    \\\"\"\" [^\"\\\\]* (?:\n                     (?: \\\\. | \"(?!\"\") )\n                     [^\"\\\\]*\n                 )*\n    (?: \\\"\"\" )?\n\n|   \" [^\"\\\\\\n]* (?: \\\\. [^\"\\\\\\n]* )* \"?\n\n|   ''' [^'\\\\]* (?:\n                   (?: \\\\. | '(?!'') )\n                   [^'\\\\]*\n                )*\n    (?: ''' )?\n\n|   ' [^'\\\\\\n]* (?: \\\\. [^'\\\\\\n]* )* '?\n" 336), .int 112 608, .int 0 0, .none, .none, .ref 47, .int 0 0]) #[])
noncomputable def treeG0 (P : Params) : BT := (.node (h0_0 P) (.node (h0_1 P) (.node (hG0_3 P) (.node (h0_7 P) (.node (h0_15 P) (.node (hp_31 P) .nil .nil) (.node (hG0_47 P) .nil .nil)) (.node (h0_23 P) (.node (hG0_39 P) .nil .nil) .nil)) (.node (h0_11 P) (.node (h0_19 P) (.node (hG0_35 P) .nil .nil) .nil) (.node (h0_27 P) (.node (hG0_43 P) .nil .nil) .nil))) (.node (h0_5 P) (.node (h0_9 P) (.node (h0_17 P) (.node (hG0_33 P) .nil .nil) .nil) (.node (h0_25 P) (.node (hG0_41 P) .nil .nil) .nil)) (.node (h0_13 P) (.node (h0_21 P) (.node (hG0_37 P) .nil .nil) .nil) (.node (hG0_29 P) (.node (hG0_45 P) .nil .nil) .nil)))) (.node (h0_2 P) (.node (h0_4 P) (.node (h0_8 P) (.node (h0_16 P) (.node (hG0_32 P) .nil .nil) (.node (hG0_48 P) .nil .nil)) (.node (h0_24 P) (.node (hG0_40 P) .nil .nil) .nil)) (.node (h0_12 P) (.node (h0_20 P) (.node (hG0_36 P) .nil .nil) .nil) (.node (hp_28 P) (.node (hG0_44 P) .nil .nil) .nil))) (.node (h0_6 P) (.node (h0_10 P) (.node (h0_18 P) (.node (hG0_34 P) .nil .nil) .nil) (.node (h0_26 P) (.node (hG0_42 P) .nil .nil) .nil)) (.node (h0_14 P) (.node (h0_22 P) (.node (hG0_38 P) .nil .nil) .nil) (.node (hp_30 P) (.node (hG0_46 P) .nil .nil) .nil)))))
theorem h_G0 (w : World) (os : OsState) : segRunT treeTable p9 w 28 ann9 1 444 (SharedT.mk (treeK w.params) 32 (@PySem.Life.mk [] [] [] 0 [] [] @Bool.false (@List.toArray @Nat []) [] 0 @Bool.false @Bool.false @Bool.false (0 : Int) [(2000 : Int), (10 : Int), (10 : Int)] @Bool.false 0 @Bool.true [] [] 0 @Bool.false) (Array.mk []) (@PySem.Drawn.mk 0 0 0 0) 282 os) (piecesOf ((b9.drop 0).take 4) e9 c9 (@PySem.Pos.mk 0 0 0 0) B9) = some (Flow.next, (SharedT.mk (treeG0 w.params) 49 (@PySem.Life.mk [] [] [] 0 [] [] @Bool.false (@List.toArray @Nat []) [] 0 @Bool.false @Bool.false @Bool.false (0 : Int) [(2000 : Int), (10 : Int), (10 : Int)] @Bool.false 0 @Bool.true [] [] 0 @Bool.false) (Array.mk []) (@PySem.Drawn.mk 0 0 0 0) 610 os), c9, (@PySem.Pos.mk 7 0 7 10)) := by
  (rw [show @PySem.W.segRunT = _ from PySem.W.Fast.te10110043849684766642, show treeTable = _ from PySem.W.Fast.te14364793385576792824]; kernel_rfl)
noncomputable def hG4_3 (P : Params) : Obj := (.mk (.type "dict") none (.dict #[(.mk (PyData.keyHash P "__name__") (.str "__name__" 165) (.str "cpy313.idlelib.pyparse" 289)), (.mk (PyData.keyHash P "__doc__") (.str "__doc__" 166) .none), (.mk (PyData.keyHash P "__package__") (.str "__package__" 167) .none), (.mk (PyData.keyHash P "__loader__") (.str "__loader__" 168) (.builtin "__main__.__loader__#opaque")), (.mk (PyData.keyHash P "__spec__") (.str "__spec__" 169) .none), (.mk (PyData.keyHash P "__annotations__") (.str "__annotations__" 170) (.ref 6)), (.mk (PyData.keyHash P "__builtins__") (.str "__builtins__" 171) (.ref 4)), (.mk (PyData.keyHash P "__file__") (.str "__file__" 173) (.str "/claim/cut.py" 172)), (.mk (PyData.keyHash P "__cached__") (.str "__cached__" 174) .none), (.mk (PyData.keyHash P "_sre") (.str "_sre" 275) (.ref 12)), (.mk (PyData.keyHash P "_wall") (.str "_wall" 288) (.ref 38)), (.mk (PyData.keyHash P "_twin_re_2") (.str "_twin_re_2" 334) (.ref 43)), (.mk (PyData.keyHash P "_twin_re_3") (.str "_twin_re_3" 609) (.ref 48)), (.mk (PyData.keyHash P "_twin_re_6") (.str "_twin_re_6" 639) (.ref 53))] 14) #[])
noncomputable def hG4_49 (P : Params) : Obj := (.mk (.type "list") none (.seq #[.int 14 613, .int 4 614, .int 0 615, .int 1 616, .int 4294967295 617, .int 24 618, .int 17 619, .int 1 620, .int 4294967295 621, .int 13 622, .int 12 623, .int 21 624, .int 9 625, .int 0 626, .int 908 627, .int 939524096 628, .int 671088640 629, .int 0 630, .int 0 631, .int 0 632, .int 0 633, .int 0 634, .int 1 635, .int 1 636] 0) #[])
noncomputable def hG4_50 (P : Params) : Obj := (.mk (.type "dict") none (.dict #[] 0) #[])
noncomputable def hG4_51 (P : Params) : Obj := (.mk (.type "tuple") none (.seq #[.none] 0) #[])
noncomputable def hG4_52 (P : Params) : Obj := (.mk (.type "tuple") none (.seq #[.int 14 0, .int 4 0, .int 0 0, .int 1 0, .int 4294967295 0, .int 24 0, .int 17 0, .int 1 0, .int 4294967295 0, .int 13 0, .int 12 0, .int 21 0, .int 9 0, .int 0 0, .int 908 0, .int 939524096 0, .int 671088640 0, .int 0 0, .int 0 0, .int 0 0, .int 0 0, .int 0 0, .int 1 0, .int 1 0] 0) #[])
noncomputable def hG4_53 (P : Params) : Obj := (.mk (.type "re.Pattern") none (.fields #[(.str "\n    [^[\\](){}#'\"\\\\]+\n" 611), .int 96 638, .int 0 0, .none, .none, .ref 52, .int 0 0]) #[])
noncomputable def treeG4 (P : Params) : BT := (.node (h0_0 P) (.node (h0_1 P) (.node (hG4_3 P) (.node (h0_7 P) (.node (h0_15 P) (.node (hp_31 P) .nil .nil) (.node (hG0_47 P) .nil .nil)) (.node (h0_23 P) (.node (hG0_39 P) .nil .nil) .nil)) (.node (h0_11 P) (.node (h0_19 P) (.node (hG0_35 P) .nil .nil) (.node (hG4_51 P) .nil .nil)) (.node (h0_27 P) (.node (hG0_43 P) .nil .nil) .nil))) (.node (h0_5 P) (.node (h0_9 P) (.node (h0_17 P) (.node (hG0_33 P) .nil .nil) (.node (hG4_49 P) .nil .nil)) (.node (h0_25 P) (.node (hG0_41 P) .nil .nil) .nil)) (.node (h0_13 P) (.node (h0_21 P) (.node (hG0_37 P) .nil .nil) (.node (hG4_53 P) .nil .nil)) (.node (hG0_29 P) (.node (hG0_45 P) .nil .nil) .nil)))) (.node (h0_2 P) (.node (h0_4 P) (.node (h0_8 P) (.node (h0_16 P) (.node (hG0_32 P) .nil .nil) (.node (hG0_48 P) .nil .nil)) (.node (h0_24 P) (.node (hG0_40 P) .nil .nil) .nil)) (.node (h0_12 P) (.node (h0_20 P) (.node (hG0_36 P) .nil .nil) (.node (hG4_52 P) .nil .nil)) (.node (hp_28 P) (.node (hG0_44 P) .nil .nil) .nil))) (.node (h0_6 P) (.node (h0_10 P) (.node (h0_18 P) (.node (hG0_34 P) .nil .nil) (.node (hG4_50 P) .nil .nil)) (.node (h0_26 P) (.node (hG0_42 P) .nil .nil) .nil)) (.node (h0_14 P) (.node (h0_22 P) (.node (hG0_38 P) .nil .nil) .nil) (.node (hp_30 P) (.node (hG0_46 P) .nil .nil) .nil)))))
theorem h_G4 (w : World) (os : OsState) : segRunT treeTable p9 w 28 ann9 1 74 (SharedT.mk (treeG0 w.params) 49 (@PySem.Life.mk [] [] [] 0 [] [] @Bool.false (@List.toArray @Nat []) [] 0 @Bool.false @Bool.false @Bool.false (0 : Int) [(2000 : Int), (10 : Int), (10 : Int)] @Bool.false 0 @Bool.true [] [] 0 @Bool.false) (Array.mk []) (@PySem.Drawn.mk 0 0 0 0) 610 os) (piecesOf ((b9.drop 4).take 1) e9 c9 (@PySem.Pos.mk 7 0 7 10) B9) = some (Flow.next, (SharedT.mk (treeG4 w.params) 54 (@PySem.Life.mk [] [] [] 0 [] [] @Bool.false (@List.toArray @Nat []) [] 0 @Bool.false @Bool.false @Bool.false (0 : Int) [(2000 : Int), (10 : Int), (10 : Int)] @Bool.false 0 @Bool.true [] [] 0 @Bool.false) (Array.mk []) (@PySem.Drawn.mk 0 0 0 0) 640 os), c9, (@PySem.Pos.mk 8 0 8 10)) := by
  (rw [show @PySem.W.segRunT = _ from PySem.W.Fast.te10110043849684766642, show treeTable = _ from PySem.W.Fast.te14364793385576792824]; kernel_rfl)
noncomputable def hG5_3 (P : Params) : Obj := (.mk (.type "dict") none (.dict #[(.mk (PyData.keyHash P "__name__") (.str "__name__" 165) (.str "cpy313.idlelib.pyparse" 289)), (.mk (PyData.keyHash P "__doc__") (.str "__doc__" 166) .none), (.mk (PyData.keyHash P "__package__") (.str "__package__" 167) .none), (.mk (PyData.keyHash P "__loader__") (.str "__loader__" 168) (.builtin "__main__.__loader__#opaque")), (.mk (PyData.keyHash P "__spec__") (.str "__spec__" 169) .none), (.mk (PyData.keyHash P "__annotations__") (.str "__annotations__" 170) (.ref 6)), (.mk (PyData.keyHash P "__builtins__") (.str "__builtins__" 171) (.ref 4)), (.mk (PyData.keyHash P "__file__") (.str "__file__" 173) (.str "/claim/cut.py" 172)), (.mk (PyData.keyHash P "__cached__") (.str "__cached__" 174) .none), (.mk (PyData.keyHash P "_sre") (.str "_sre" 275) (.ref 12)), (.mk (PyData.keyHash P "_wall") (.str "_wall" 288) (.ref 38)), (.mk (PyData.keyHash P "_twin_re_2") (.str "_twin_re_2" 334) (.ref 43)), (.mk (PyData.keyHash P "_twin_re_3") (.str "_twin_re_3" 609) (.ref 48)), (.mk (PyData.keyHash P "_twin_re_6") (.str "_twin_re_6" 639) (.ref 53)), (.mk (PyData.keyHash P "C_NONE") (.str "C_NONE" 648) (.int 0 643)), (.mk (PyData.keyHash P "C_BACKSLASH") (.str "C_BACKSLASH" 649) (.int 1 644)), (.mk (PyData.keyHash P "C_STRING_FIRST_LINE") (.str "C_STRING_FIRST_LINE" 650) (.int 2 645)), (.mk (PyData.keyHash P "C_STRING_NEXT_LINES") (.str "C_STRING_NEXT_LINES" 651) (.int 3 646)), (.mk (PyData.keyHash P "C_BRACKET") (.str "C_BRACKET" 652) (.int 4 647))] 19) #[])
noncomputable def hG5_54 (P : Params) : Obj := (.mk (.type "range") none (.fields #[.int 0 641, .int 5 640, .int 1 642]) #[])
noncomputable def hG5_55 (P : Params) : Obj := (.mk (.type "range_iterator") none (.fields #[.int 5 0, .int 0 0, .int 1 0]) #[])
noncomputable def hG5_56 (P : Params) : Obj := (.mk (.type "tuple") none (.seq #[] 0) #[])
noncomputable def hG5_57 (P : Params) : Obj := (.mk (.type "StopIteration") none (.fields #[.ref 56, .none, .none, .none, .bool false, .none]) #[])
noncomputable def treeG5 (P : Params) : BT := (.node (h0_0 P) (.node (h0_1 P) (.node (hG5_3 P) (.node (h0_7 P) (.node (h0_15 P) (.node (hp_31 P) .nil .nil) (.node (hG0_47 P) .nil .nil)) (.node (h0_23 P) (.node (hG0_39 P) .nil .nil) (.node (hG5_55 P) .nil .nil))) (.node (h0_11 P) (.node (h0_19 P) (.node (hG0_35 P) .nil .nil) (.node (hG4_51 P) .nil .nil)) (.node (h0_27 P) (.node (hG0_43 P) .nil .nil) .nil))) (.node (h0_5 P) (.node (h0_9 P) (.node (h0_17 P) (.node (hG0_33 P) .nil .nil) (.node (hG4_49 P) .nil .nil)) (.node (h0_25 P) (.node (hG0_41 P) .nil .nil) (.node (hG5_57 P) .nil .nil))) (.node (h0_13 P) (.node (h0_21 P) (.node (hG0_37 P) .nil .nil) (.node (hG4_53 P) .nil .nil)) (.node (hG0_29 P) (.node (hG0_45 P) .nil .nil) .nil)))) (.node (h0_2 P) (.node (h0_4 P) (.node (h0_8 P) (.node (h0_16 P) (.node (hG0_32 P) .nil .nil) (.node (hG0_48 P) .nil .nil)) (.node (h0_24 P) (.node (hG0_40 P) .nil .nil) (.node (hG5_56 P) .nil .nil))) (.node (h0_12 P) (.node (h0_20 P) (.node (hG0_36 P) .nil .nil) (.node (hG4_52 P) .nil .nil)) (.node (hp_28 P) (.node (hG0_44 P) .nil .nil) .nil))) (.node (h0_6 P) (.node (h0_10 P) (.node (h0_18 P) (.node (hG0_34 P) .nil .nil) (.node (hG4_50 P) .nil .nil)) (.node (h0_26 P) (.node (hG0_42 P) .nil .nil) .nil)) (.node (h0_14 P) (.node (h0_22 P) (.node (hG0_38 P) .nil .nil) (.node (hG5_54 P) .nil .nil)) (.node (hp_30 P) (.node (hG0_46 P) .nil .nil) .nil)))))
noncomputable def h_G5_q (w : World) (os : OsState) : Prop := segRunT treeTable p9 w 28 ann9 1 152 (SharedT.mk (treeG4 w.params) 54 (@PySem.Life.mk [] [] [] 0 [] [] @Bool.false (@List.toArray @Nat []) [] 0 @Bool.false @Bool.false @Bool.false (0 : Int) [(2000 : Int), (10 : Int), (10 : Int)] @Bool.false 0 @Bool.true [] [] 0 @Bool.false) (Array.mk []) (@PySem.Drawn.mk 0 0 0 0) 640 os) (piecesOf ((b9.drop 5).take 1) e9 c9 (@PySem.Pos.mk 8 0 8 10) B9) = some (Flow.next, (SharedT.mk (treeG5 w.params) 58 (@PySem.Life.mk [] [] [] 0 [] [] @Bool.false (@List.toArray @Nat []) [] 0 @Bool.false @Bool.false @Bool.false (0 : Int) [(2000 : Int), (10 : Int), (10 : Int)] @Bool.false 0 @Bool.true [] [] 0 @Bool.false) (Array.mk []) (@PySem.Drawn.mk 0 0 0 0) 653 os), c9, (@PySem.Pos.mk 9 63 9 72))
theorem h_G5_f (w : World) (os : OsState) : h_G5_q (w.withFollow "special-get-raises" false) os := by
  unfold h_G5_q
  (rw [show @PySem.W.segRunT = _ from PySem.W.Fast.te10110043849684766642, show treeTable = _ from PySem.W.Fast.te14364793385576792824]; kernel_rfl)
theorem h_G5_t (w : World) (os : OsState) : h_G5_q (w.withFollow "special-get-raises" true) os := by
  unfold h_G5_q
  (rw [show @PySem.W.segRunT = _ from PySem.W.Fast.te10110043849684766642, show treeTable = _ from PySem.W.Fast.te14364793385576792824]; kernel_rfl)
theorem h_G5 (w : World) (os : OsState) : segRunT treeTable p9 w 28 ann9 1 152 (SharedT.mk (treeG4 w.params) 54 (@PySem.Life.mk [] [] [] 0 [] [] @Bool.false (@List.toArray @Nat []) [] 0 @Bool.false @Bool.false @Bool.false (0 : Int) [(2000 : Int), (10 : Int), (10 : Int)] @Bool.false 0 @Bool.true [] [] 0 @Bool.false) (Array.mk []) (@PySem.Drawn.mk 0 0 0 0) 640 os) (piecesOf ((b9.drop 5).take 1) e9 c9 (@PySem.Pos.mk 8 0 8 10) B9) = some (Flow.next, (SharedT.mk (treeG5 w.params) 58 (@PySem.Life.mk [] [] [] 0 [] [] @Bool.false (@List.toArray @Nat []) [] 0 @Bool.false @Bool.false @Bool.false (0 : Int) [(2000 : Int), (10 : Int), (10 : Int)] @Bool.false 0 @Bool.true [] [] 0 @Bool.false) (Array.mk []) (@PySem.Drawn.mk 0 0 0 0) 653 os), c9, (@PySem.Pos.mk 9 63 9 72)) := byRow2 "special-get-raises" (P := fun w => ∀ os, h_G5_q w os) h_G5_f h_G5_t w os
noncomputable def hG6_3 (P : Params) : Obj := (.mk (.type "dict") none (.dict #[(.mk (PyData.keyHash P "__name__") (.str "__name__" 165) (.str "cpy313.idlelib.pyparse" 289)), (.mk (PyData.keyHash P "__doc__") (.str "__doc__" 166) .none), (.mk (PyData.keyHash P "__package__") (.str "__package__" 167) .none), (.mk (PyData.keyHash P "__loader__") (.str "__loader__" 168) (.builtin "__main__.__loader__#opaque")), (.mk (PyData.keyHash P "__spec__") (.str "__spec__" 169) .none), (.mk (PyData.keyHash P "__annotations__") (.str "__annotations__" 170) (.ref 6)), (.mk (PyData.keyHash P "__builtins__") (.str "__builtins__" 171) (.ref 4)), (.mk (PyData.keyHash P "__file__") (.str "__file__" 173) (.str "/claim/cut.py" 172)), (.mk (PyData.keyHash P "__cached__") (.str "__cached__" 174) .none), (.mk (PyData.keyHash P "_sre") (.str "_sre" 275) (.ref 12)), (.mk (PyData.keyHash P "_wall") (.str "_wall" 288) (.ref 38)), (.mk (PyData.keyHash P "_twin_re_2") (.str "_twin_re_2" 334) (.ref 43)), (.mk (PyData.keyHash P "_twin_re_3") (.str "_twin_re_3" 609) (.ref 48)), (.mk (PyData.keyHash P "_twin_re_6") (.str "_twin_re_6" 639) (.ref 53)), (.mk (PyData.keyHash P "C_NONE") (.str "C_NONE" 648) (.int 0 643)), (.mk (PyData.keyHash P "C_BACKSLASH") (.str "C_BACKSLASH" 649) (.int 1 644)), (.mk (PyData.keyHash P "C_STRING_FIRST_LINE") (.str "C_STRING_FIRST_LINE" 650) (.int 2 645)), (.mk (PyData.keyHash P "C_STRING_NEXT_LINES") (.str "C_STRING_NEXT_LINES" 651) (.int 3 646)), (.mk (PyData.keyHash P "C_BRACKET") (.str "C_BRACKET" 652) (.int 4 647)), (.mk (PyData.keyHash P "_junkre") (.str "_junkre" 654) (.ref 58)), (.mk (PyData.keyHash P "_match_stringre") (.str "_match_stringre" 656) (.ref 59)), (.mk (PyData.keyHash P "_chew_ordinaryre") (.str "_chew_ordinaryre" 658) (.ref 60)), (.mk (PyData.keyHash P "ParseMap") (.str "ParseMap" 686) (.ref 77))] 23) #[])
noncomputable def hG6_29 (P : Params) : Obj := (.mk .none none (.fields #[.int 2 0, .int 0 0, .ref 37, .int 13 0, .int 0 0, .ref 66]) #[])
noncomputable def hG6_58 (P : Params) : Obj := (.mk (.type "builtin_function_or_method") none (.fields #[.builtin "re.Pattern.match", .ref 43]) #[])
noncomputable def hG6_59 (P : Params) : Obj := (.mk (.type "builtin_function_or_method") none (.fields #[.builtin "re.Pattern.match", .ref 48]) #[])
noncomputable def hG6_60 (P : Params) : Obj := (.mk (.type "builtin_function_or_method") none (.fields #[.builtin "re.Pattern.match", .ref 53]) #[])
noncomputable def hG6_61 (P : Params) : Obj := (.mk (.type "tuple") none (.seq #[.type "dict"] 0) #[])
noncomputable def hG6_62 (P : Params) : Obj := (.mk (.type "builtin_function_or_method") none (.fields #[.builtin "type.__prepare__", .type "type"]) #[])
noncomputable def hG6_63 (P : Params) : Obj := (.mk (.type "dict") none (.dict #[(.mk (PyData.keyHash P "__module__") (.str "__module__" 666) (.str "cpy313.idlelib.pyparse" 289)), (.mk (PyData.keyHash P "__qualname__") (.str "__qualname__" 668) (.str "ParseMap" 667)), (.mk (PyData.keyHash P "__firstlineno__") (.str "__firstlineno__" 670) (.int 13 669)), (.mk (PyData.keyHash P "__missing__") (.str "__missing__" 678) (.ref 74)), (.mk (PyData.keyHash P "__static_attributes__") (.str "__static_attributes__" 679) (.ref 75))] 5) #[])
noncomputable def hG6_64 (P : Params) : Obj := (.mk (.type "tuple") none (.seq #[] 0) #[])
noncomputable def hG6_65 (P : Params) : Obj := (.mk .none none (.fields #[.int 15 0, .int 4 0, .ref 73]) #[])
noncomputable def hG6_66 (P : Params) : Obj := (.mk (.type "code") none (.fields #[(.str "ParseMap" 661), (.str "ParseMap" 662), (.str "/claim/cut.py" 663), .int 13 0, .int 0 0, .int 0 0, .int 0 0, .int 0 0, .ref 64, .bool false, .int 276 0, .ref 65, .none, .none, .none, .none, .int 664 0, .int 13 0, (.str "/claim/cut.py" 665)]) #[])
noncomputable def hG6_67 (P : Params) : Obj := (.mk (.type "frame") none .plain #[(some (.ref 66)), (some (.ref 3)), (some (.ref 63)), none, (some (.str "cpy313.idlelib.pyparse" 289)), none, (some (.ref 0))])
noncomputable def hG6_68 (P : Params) : Obj := (.mk (.type "tuple") none (.seq #[] 0) #[])
noncomputable def hG6_69 (P : Params) : Obj := (.mk .none none (.fields #[]) #[])
noncomputable def hG6_70 (P : Params) : Obj := (.mk (.type "tuple") none (.seq #[(.str "self" 674), (.str "key" 675)] 0) #[])
noncomputable def hG6_71 (P : Params) : Obj := (.mk (.type "tuple") none (.seq #[] 0) #[])
noncomputable def hG6_72 (P : Params) : Obj := (.mk .none none (.func (.mk "__missing__" "ParseMap.__missing__" (fnA (stAt 0 (clsB (stAt 9 b9)))) (.stmts (fnB (stAt 0 (clsB (stAt 9 b9))))) (scB (stAt 0 (clsB (stAt 9 b9)))) 0 [] .none .none .none .none none .none .none 0)) #[])
noncomputable def hG6_73 (P : Params) : Obj := (.mk (.type "code") none (.fields #[(.str "__missing__" 671), (.str "ParseMap.__missing__" 672), (.str "/claim/cut.py" 673), .int 15 0, .int 2 0, .int 0 0, .int 0 0, .int 3 0, .ref 68, .bool true, .int 276 0, .ref 69, .none, .ref 70, .ref 71, .ref 72, .int 676 0, .int 15 0, (.str "/claim/cut.py" 677)]) #[])
noncomputable def hG6_74 (P : Params) : Obj := (.mk (.type "function") none (.func (.mk "__missing__" "ParseMap.__missing__" (fnA (stAt 0 (clsB (stAt 9 b9)))) (.stmts (fnB (stAt 0 (clsB (stAt 9 b9))))) (scB (stAt 0 (clsB (stAt 9 b9)))) 3 [] .none .none .none (.str "cpy313.idlelib.pyparse" 289) none (.ref 73) .none 0)) #[])
noncomputable def hG6_75 (P : Params) : Obj := (.mk (.type "tuple") none (.seq #[] 0) #[])
noncomputable def hG6_76 (P : Params) : Obj := (.mk (.type "dict") none (.dict #[(.mk (PyData.keyHash P "__module__") (.str "__module__" 666) (.str "cpy313.idlelib.pyparse" 289)), (.mk (PyData.keyHash P "__firstlineno__") (.str "__firstlineno__" 670) (.int 13 669)), (.mk (PyData.keyHash P "__missing__") (.str "__missing__" 678) (.ref 74)), (.mk (PyData.keyHash P "__static_attributes__") (.str "__static_attributes__" 679) (.ref 75)), (.mk (PyData.keyHash P "__dict__") (.str "__dict__" 681) (.ref 78)), (.mk (PyData.keyHash P "__weakref__") (.str "__weakref__" 683) (.ref 79)), (.mk (PyData.keyHash P "__doc__") (.str "__doc__" 684) .none)] 4) #[])
noncomputable def hG6_77 (P : Params) : Obj := (.mk (.type "type") none (.cls (.mk "ParseMap" [.type "dict"] [.ref 77, .type "dict", .type "object"] 76 "ParseMap" true [] [] false none false)) #[(some (.ref 61)), none, (some (.str "ParseMap" 659)), (some (.str "ParseMap" 667)), (some (.builtin "dict.__new__")), (some (.bool true))])
noncomputable def hG6_78 (P : Params) : Obj := (.mk (.type "getset_descriptor") none (.fields #[(.str "__dict__" 680), .ref 77, .builtin "function.__dict__", .builtin "function.__dict__#set"]) #[])
noncomputable def hG6_79 (P : Params) : Obj := (.mk (.type "getset_descriptor") none (.fields #[(.str "__weakref__" 682), .ref 77, .builtin "ExceptionGroup.__weakref__", .none]) #[])
noncomputable def hG6_80 (P : Params) : Obj := (.mk (.type "super") none (.fields #[.ref 77, .ref 77, .ref 77]) #[])
noncomputable def hG6_81 (P : Params) : Obj := (.mk (.type "builtin_function_or_method") none (.fields #[.builtin "object.__init_subclass__", .ref 77]) #[])
noncomputable def treeG6 (P : Params) : BT := (.node (h0_0 P) (.node (h0_1 P) (.node (hG6_3 P) (.node (h0_7 P) (.node (h0_15 P) (.node (hp_31 P) (.node (hG6_63 P) .nil .nil) .nil) (.node (hG0_47 P) (.node (hG6_79 P) .nil .nil) .nil)) (.node (h0_23 P) (.node (hG0_39 P) (.node (hG6_71 P) .nil .nil) .nil) (.node (hG5_55 P) .nil .nil))) (.node (h0_11 P) (.node (h0_19 P) (.node (hG0_35 P) (.node (hG6_67 P) .nil .nil) .nil) (.node (hG4_51 P) .nil .nil)) (.node (h0_27 P) (.node (hG0_43 P) (.node (hG6_75 P) .nil .nil) .nil) (.node (hG6_59 P) .nil .nil)))) (.node (h0_5 P) (.node (h0_9 P) (.node (h0_17 P) (.node (hG0_33 P) (.node (hG6_65 P) .nil .nil) .nil) (.node (hG4_49 P) (.node (hG6_81 P) .nil .nil) .nil)) (.node (h0_25 P) (.node (hG0_41 P) (.node (hG6_73 P) .nil .nil) .nil) (.node (hG5_57 P) .nil .nil))) (.node (h0_13 P) (.node (h0_21 P) (.node (hG0_37 P) (.node (hG6_69 P) .nil .nil) .nil) (.node (hG4_53 P) .nil .nil)) (.node (hG6_29 P) (.node (hG0_45 P) (.node (hG6_77 P) .nil .nil) .nil) (.node (hG6_61 P) .nil .nil))))) (.node (h0_2 P) (.node (h0_4 P) (.node (h0_8 P) (.node (h0_16 P) (.node (hG0_32 P) (.node (hG6_64 P) .nil .nil) .nil) (.node (hG0_48 P) (.node (hG6_80 P) .nil .nil) .nil)) (.node (h0_24 P) (.node (hG0_40 P) (.node (hG6_72 P) .nil .nil) .nil) (.node (hG5_56 P) .nil .nil))) (.node (h0_12 P) (.node (h0_20 P) (.node (hG0_36 P) (.node (hG6_68 P) .nil .nil) .nil) (.node (hG4_52 P) .nil .nil)) (.node (hp_28 P) (.node (hG0_44 P) (.node (hG6_76 P) .nil .nil) .nil) (.node (hG6_60 P) .nil .nil)))) (.node (h0_6 P) (.node (h0_10 P) (.node (h0_18 P) (.node (hG0_34 P) (.node (hG6_66 P) .nil .nil) .nil) (.node (hG4_50 P) .nil .nil)) (.node (h0_26 P) (.node (hG0_42 P) (.node (hG6_74 P) .nil .nil) .nil) (.node (hG6_58 P) .nil .nil))) (.node (h0_14 P) (.node (h0_22 P) (.node (hG0_38 P) (.node (hG6_70 P) .nil .nil) .nil) (.node (hG5_54 P) .nil .nil)) (.node (hp_30 P) (.node (hG0_46 P) (.node (hG6_78 P) .nil .nil) .nil) (.node (hG6_62 P) .nil .nil))))))
theorem h_G6 (w : World) (os : OsState) : segRunT treeTable p9 w 28 ann9 1 307 (SharedT.mk (treeG5 w.params) 58 (@PySem.Life.mk [] [] [] 0 [] [] @Bool.false (@List.toArray @Nat []) [] 0 @Bool.false @Bool.false @Bool.false (0 : Int) [(2000 : Int), (10 : Int), (10 : Int)] @Bool.false 0 @Bool.true [] [] 0 @Bool.false) (Array.mk []) (@PySem.Drawn.mk 0 0 0 0) 653 os) (piecesOf ((b9.drop 6).take 4) e9 c9 (@PySem.Pos.mk 9 63 9 72) B9) = some (Flow.next, (SharedT.mk (treeG6 w.params) 82 (@PySem.Life.mk [] [] [] 0 [] [] @Bool.false (@List.toArray @Nat []) [] 0 @Bool.false @Bool.false @Bool.false (0 : Int) [(2000 : Int), (10 : Int), (10 : Int)] @Bool.false 0 @Bool.true [] [] 0 @Bool.false) (Array.mk []) (@PySem.Drawn.mk 0 0 0 0) 687 os), c9, (@PySem.Pos.mk 13 0 16 18)) := by
  (rw [show @PySem.W.segRunT = _ from PySem.W.Fast.te10110043849684766642, show treeTable = _ from PySem.W.Fast.te14364793385576792824]; kernel_rfl)
noncomputable def kO : List Frame → Result → Sem Fin
  | .ret k _ _ _ _ _ _ :: _ => k
  | _ => fun _ => doneF Flow.next
noncomputable def stk (w : World) (os : OsState) : Result → Sem Fin := match PySem.W.Fast.tw10295753902157049106 PySem.W.Fast.tw14364793385576792824 p9 w 28 ann9 1 113 (SharedT.mk (treeG6 w.params) 82 (@PySem.Life.mk [] [] [] 0 [] [] @Bool.false (@List.toArray @Nat []) [] 0 @Bool.false @Bool.false @Bool.false (0 : Int) [(2000 : Int), (10 : Int), (10 : Int)] @Bool.false 0 @Bool.true [] [] 0 @Bool.false) (Array.mk []) (@PySem.Drawn.mk 0 0 0 0) 687 os) (piecesOf ((b9.drop 10).take 1) e9 c9 (@PySem.Pos.mk 13 0 16 18) B9) with | some (_, t) => kO t.stack | none => fun _ => doneF Flow.next
noncomputable def hG10x0_82 (P : Params) : Obj := (.mk (.type "builtin_function_or_method") none (.fields #[.builtin "dict.fromkeys", .ref 77]) #[])
noncomputable def hG10x0_83 (P : Params) : Obj := (.mk (.type "range") none (.fields #[.int 0 689, .int 128 688, .int 1 690]) #[])
noncomputable def hG10x0_84 (P : Params) : Obj := (.mk (.type "dict") none (.dict #[] 0) #[])
noncomputable def hG10x0_85 (P : Params) : Obj := (.mk (.ref 77) (some 84) (.dict #[] 0) #[])
noncomputable def hG10x0_86 (P : Params) : Obj := (.mk (.type "range_iterator") none (.fields #[.int 0 0, .int 128 0, .int 1 0]) #[])
noncomputable def treeG10x0 (P : Params) : BT := (.node (h0_0 P) (.node (h0_1 P) (.node (hG6_3 P) (.node (h0_7 P) (.node (h0_15 P) (.node (hp_31 P) (.node (hG6_63 P) .nil .nil) .nil) (.node (hG0_47 P) (.node (hG6_79 P) .nil .nil) .nil)) (.node (h0_23 P) (.node (hG0_39 P) (.node (hG6_71 P) .nil .nil) .nil) (.node (hG5_55 P) .nil .nil))) (.node (h0_11 P) (.node (h0_19 P) (.node (hG0_35 P) (.node (hG6_67 P) .nil .nil) .nil) (.node (hG4_51 P) (.node (hG10x0_83 P) .nil .nil) .nil)) (.node (h0_27 P) (.node (hG0_43 P) (.node (hG6_75 P) .nil .nil) .nil) (.node (hG6_59 P) .nil .nil)))) (.node (h0_5 P) (.node (h0_9 P) (.node (h0_17 P) (.node (hG0_33 P) (.node (hG6_65 P) .nil .nil) .nil) (.node (hG4_49 P) (.node (hG6_81 P) .nil .nil) .nil)) (.node (h0_25 P) (.node (hG0_41 P) (.node (hG6_73 P) .nil .nil) .nil) (.node (hG5_57 P) .nil .nil))) (.node (h0_13 P) (.node (h0_21 P) (.node (hG0_37 P) (.node (hG6_69 P) .nil .nil) .nil) (.node (hG4_53 P) (.node (hG10x0_85 P) .nil .nil) .nil)) (.node (hG6_29 P) (.node (hG0_45 P) (.node (hG6_77 P) .nil .nil) .nil) (.node (hG6_61 P) .nil .nil))))) (.node (h0_2 P) (.node (h0_4 P) (.node (h0_8 P) (.node (h0_16 P) (.node (hG0_32 P) (.node (hG6_64 P) .nil .nil) .nil) (.node (hG0_48 P) (.node (hG6_80 P) .nil .nil) .nil)) (.node (h0_24 P) (.node (hG0_40 P) (.node (hG6_72 P) .nil .nil) .nil) (.node (hG5_56 P) .nil .nil))) (.node (h0_12 P) (.node (h0_20 P) (.node (hG0_36 P) (.node (hG6_68 P) .nil .nil) .nil) (.node (hG4_52 P) (.node (hG10x0_84 P) .nil .nil) .nil)) (.node (hp_28 P) (.node (hG0_44 P) (.node (hG6_76 P) .nil .nil) .nil) (.node (hG6_60 P) .nil .nil)))) (.node (h0_6 P) (.node (h0_10 P) (.node (h0_18 P) (.node (hG0_34 P) (.node (hG6_66 P) .nil .nil) .nil) (.node (hG4_50 P) (.node (hG10x0_82 P) .nil .nil) .nil)) (.node (h0_26 P) (.node (hG0_42 P) (.node (hG6_74 P) .nil .nil) .nil) (.node (hG6_58 P) .nil .nil))) (.node (h0_14 P) (.node (h0_22 P) (.node (hG0_38 P) (.node (hG6_70 P) .nil .nil) .nil) (.node (hG5_54 P) (.node (hG10x0_86 P) .nil .nil) .nil)) (.node (hp_30 P) (.node (hG0_46 P) (.node (hG6_78 P) .nil .nil) .nil) (.node (hG6_62 P) .nil .nil))))))
noncomputable def h_G10x0_q (w : World) (os : OsState) : Prop := segGoT treeTable p9 w 28 ann9 1 113 (SharedT.mk (treeG6 w.params) 82 (@PySem.Life.mk [] [] [] 0 [] [] @Bool.false (@List.toArray @Nat []) [] 0 @Bool.false @Bool.false @Bool.false (0 : Int) [(2000 : Int), (10 : Int), (10 : Int)] @Bool.false 0 @Bool.true [] [] 0 @Bool.false) (Array.mk []) (@PySem.Drawn.mk 0 0 0 0) 687 os) (piecesOf ((b9.drop 10).take 1) e9 c9 (@PySem.Pos.mk 13 0 16 18) B9) = some ((SharedT.mk (treeG10x0 w.params) 87 (@PySem.Life.mk [] [] [] 0 [] [] @Bool.false (@List.toArray @Nat []) [] 0 @Bool.false @Bool.false @Bool.false (0 : Int) [(2000 : Int), (10 : Int), (10 : Int)] @Bool.false 0 @Bool.true [] [] 0 @Bool.false) (Array.mk []) (@PySem.Drawn.mk 0 0 0 0) 692 os), (Thread.mk (denote treeTable (Code.builtin "dict.fromkeys.loop" (Args.mk [(@PySem.Value.ref 85), (@PySem.Value.ref 86), (@PySem.Value.int (120 : Int) 691)] []))) (Code.builtin "dict.fromkeys.loop" (Args.mk [(@PySem.Value.ref 85), (@PySem.Value.ref 86), (@PySem.Value.int (120 : Int) 691)] [])) (@PySem.Pos.mk 17 8 17 42) [Frame.ret (stk w os) none false [] c9 (@PySem.Pos.mk 17 8 17 42) [(@PySem.Value.ref 82), (@PySem.Value.ref 83), (@PySem.Value.int (120 : Int) 691)], topFrame (@PySem.Pos.mk 0 0 0 0)]))
theorem h_G10x0_f (w : World) (os : OsState) : h_G10x0_q (w.withFollow "special-get-raises" false) os := by
  unfold h_G10x0_q
  (rw [show @PySem.W.segGoT = _ from PySem.W.Fast.te10295753902157049106, show @PySem.denote = _ from PySem.W.Fast.te11892475500146522536, show treeTable = _ from PySem.W.Fast.te14364793385576792824]; kernel_rfl)
theorem h_G10x0_t (w : World) (os : OsState) : h_G10x0_q (w.withFollow "special-get-raises" true) os := by
  unfold h_G10x0_q
  (rw [show @PySem.W.segGoT = _ from PySem.W.Fast.te10295753902157049106, show @PySem.denote = _ from PySem.W.Fast.te11892475500146522536, show treeTable = _ from PySem.W.Fast.te14364793385576792824]; kernel_rfl)
theorem h_G10x0 (w : World) (os : OsState) : segGoT treeTable p9 w 28 ann9 1 113 (SharedT.mk (treeG6 w.params) 82 (@PySem.Life.mk [] [] [] 0 [] [] @Bool.false (@List.toArray @Nat []) [] 0 @Bool.false @Bool.false @Bool.false (0 : Int) [(2000 : Int), (10 : Int), (10 : Int)] @Bool.false 0 @Bool.true [] [] 0 @Bool.false) (Array.mk []) (@PySem.Drawn.mk 0 0 0 0) 687 os) (piecesOf ((b9.drop 10).take 1) e9 c9 (@PySem.Pos.mk 13 0 16 18) B9) = some ((SharedT.mk (treeG10x0 w.params) 87 (@PySem.Life.mk [] [] [] 0 [] [] @Bool.false (@List.toArray @Nat []) [] 0 @Bool.false @Bool.false @Bool.false (0 : Int) [(2000 : Int), (10 : Int), (10 : Int)] @Bool.false 0 @Bool.true [] [] 0 @Bool.false) (Array.mk []) (@PySem.Drawn.mk 0 0 0 0) 692 os), (Thread.mk (denote treeTable (Code.builtin "dict.fromkeys.loop" (Args.mk [(@PySem.Value.ref 85), (@PySem.Value.ref 86), (@PySem.Value.int (120 : Int) 691)] []))) (Code.builtin "dict.fromkeys.loop" (Args.mk [(@PySem.Value.ref 85), (@PySem.Value.ref 86), (@PySem.Value.int (120 : Int) 691)] [])) (@PySem.Pos.mk 17 8 17 42) [Frame.ret (stk w os) none false [] c9 (@PySem.Pos.mk 17 8 17 42) [(@PySem.Value.ref 82), (@PySem.Value.ref 83), (@PySem.Value.int (120 : Int) 691)], topFrame (@PySem.Pos.mk 0 0 0 0)])) := byRow2 "special-get-raises" (P := fun w => ∀ os, h_G10x0_q w os) h_G10x0_f h_G10x0_t w os
noncomputable def hG10x16_85 (P : Params) : Obj := (.mk (.ref 77) (some 84) (.dict #[(.mk 0 (.int 0 692) (.int 120 691)), (.mk 1 (.int 1 694) (.int 120 691)), (.mk 2 (.int 2 696) (.int 120 691)), (.mk 3 (.int 3 698) (.int 120 691)), (.mk 4 (.int 4 700) (.int 120 691)), (.mk 5 (.int 5 702) (.int 120 691)), (.mk 6 (.int 6 704) (.int 120 691)), (.mk 7 (.int 7 706) (.int 120 691)), (.mk 8 (.int 8 708) (.int 120 691)), (.mk 9 (.int 9 710) (.int 120 691)), (.mk 10 (.int 10 712) (.int 120 691)), (.mk 11 (.int 11 714) (.int 120 691)), (.mk 12 (.int 12 716) (.int 120 691)), (.mk 13 (.int 13 718) (.int 120 691)), (.mk 14 (.int 14 720) (.int 120 691)), (.mk 15 (.int 15 722) (.int 120 691))] 16) #[])
noncomputable def hG10x16_86 (P : Params) : Obj := (.mk (.type "range_iterator") none (.fields #[.int 16 0, .int 112 0, .int 1 0]) #[])
noncomputable def treeG10x16 (P : Params) : BT := (.node (h0_0 P) (.node (h0_1 P) (.node (hG6_3 P) (.node (h0_7 P) (.node (h0_15 P) (.node (hp_31 P) (.node (hG6_63 P) .nil .nil) .nil) (.node (hG0_47 P) (.node (hG6_79 P) .nil .nil) .nil)) (.node (h0_23 P) (.node (hG0_39 P) (.node (hG6_71 P) .nil .nil) .nil) (.node (hG5_55 P) .nil .nil))) (.node (h0_11 P) (.node (h0_19 P) (.node (hG0_35 P) (.node (hG6_67 P) .nil .nil) .nil) (.node (hG4_51 P) (.node (hG10x0_83 P) .nil .nil) .nil)) (.node (h0_27 P) (.node (hG0_43 P) (.node (hG6_75 P) .nil .nil) .nil) (.node (hG6_59 P) .nil .nil)))) (.node (h0_5 P) (.node (h0_9 P) (.node (h0_17 P) (.node (hG0_33 P) (.node (hG6_65 P) .nil .nil) .nil) (.node (hG4_49 P) (.node (hG6_81 P) .nil .nil) .nil)) (.node (h0_25 P) (.node (hG0_41 P) (.node (hG6_73 P) .nil .nil) .nil) (.node (hG5_57 P) .nil .nil))) (.node (h0_13 P) (.node (h0_21 P) (.node (hG0_37 P) (.node (hG6_69 P) .nil .nil) .nil) (.node (hG4_53 P) (.node (hG10x16_85 P) .nil .nil) .nil)) (.node (hG6_29 P) (.node (hG0_45 P) (.node (hG6_77 P) .nil .nil) .nil) (.node (hG6_61 P) .nil .nil))))) (.node (h0_2 P) (.node (h0_4 P) (.node (h0_8 P) (.node (h0_16 P) (.node (hG0_32 P) (.node (hG6_64 P) .nil .nil) .nil) (.node (hG0_48 P) (.node (hG6_80 P) .nil .nil) .nil)) (.node (h0_24 P) (.node (hG0_40 P) (.node (hG6_72 P) .nil .nil) .nil) (.node (hG5_56 P) .nil .nil))) (.node (h0_12 P) (.node (h0_20 P) (.node (hG0_36 P) (.node (hG6_68 P) .nil .nil) .nil) (.node (hG4_52 P) (.node (hG10x0_84 P) .nil .nil) .nil)) (.node (hp_28 P) (.node (hG0_44 P) (.node (hG6_76 P) .nil .nil) .nil) (.node (hG6_60 P) .nil .nil)))) (.node (h0_6 P) (.node (h0_10 P) (.node (h0_18 P) (.node (hG0_34 P) (.node (hG6_66 P) .nil .nil) .nil) (.node (hG4_50 P) (.node (hG10x0_82 P) .nil .nil) .nil)) (.node (h0_26 P) (.node (hG0_42 P) (.node (hG6_74 P) .nil .nil) .nil) (.node (hG6_58 P) .nil .nil))) (.node (h0_14 P) (.node (h0_22 P) (.node (hG0_38 P) (.node (hG6_70 P) .nil .nil) .nil) (.node (hG5_54 P) (.node (hG10x16_86 P) .nil .nil) .nil)) (.node (hp_30 P) (.node (hG0_46 P) (.node (hG6_78 P) .nil .nil) .nil) (.node (hG6_62 P) .nil .nil))))))
noncomputable def h_G10x16_q (w : World) (os : OsState) : Prop := ∀ k : Result → Sem Fin, segGoT treeTable p9 w 28 ann9 1 640 (SharedT.mk (treeG10x0 w.params) 87 (@PySem.Life.mk [] [] [] 0 [] [] @Bool.false (@List.toArray @Nat []) [] 0 @Bool.false @Bool.false @Bool.false (0 : Int) [(2000 : Int), (10 : Int), (10 : Int)] @Bool.false 0 @Bool.true [] [] 0 @Bool.false) (Array.mk []) (@PySem.Drawn.mk 0 0 0 0) 692 os) (Thread.mk (denote treeTable (Code.builtin "dict.fromkeys.loop" (Args.mk [(@PySem.Value.ref 85), (@PySem.Value.ref 86), (@PySem.Value.int (120 : Int) 691)] []))) (Code.builtin "dict.fromkeys.loop" (Args.mk [(@PySem.Value.ref 85), (@PySem.Value.ref 86), (@PySem.Value.int (120 : Int) 691)] [])) (@PySem.Pos.mk 17 8 17 42) [Frame.ret k none false [] c9 (@PySem.Pos.mk 17 8 17 42) [(@PySem.Value.ref 82), (@PySem.Value.ref 83), (@PySem.Value.int (120 : Int) 691)], topFrame (@PySem.Pos.mk 0 0 0 0)]) = some ((SharedT.mk (treeG10x16 w.params) 87 (@PySem.Life.mk [] [] [] 0 [] [] @Bool.false (@List.toArray @Nat []) [] 0 @Bool.false @Bool.false @Bool.false (0 : Int) [(2000 : Int), (10 : Int), (10 : Int)] @Bool.false 0 @Bool.true [] [] 0 @Bool.false) (Array.mk []) (@PySem.Drawn.mk 0 0 0 0) 724 os), (Thread.mk (denote treeTable (Code.builtin "dict.fromkeys.loop" (Args.mk [(@PySem.Value.ref 85), (@PySem.Value.ref 86), (@PySem.Value.int (120 : Int) 691)] []))) (Code.builtin "dict.fromkeys.loop" (Args.mk [(@PySem.Value.ref 85), (@PySem.Value.ref 86), (@PySem.Value.int (120 : Int) 691)] [])) (@PySem.Pos.mk 17 8 17 42) [Frame.ret k none false [] c9 (@PySem.Pos.mk 17 8 17 42) [(@PySem.Value.ref 82), (@PySem.Value.ref 83), (@PySem.Value.int (120 : Int) 691)], topFrame (@PySem.Pos.mk 0 0 0 0)]))
theorem h_G10x16_f (w : World) (os : OsState) : h_G10x16_q (w.withFollow "special-get-raises" false) os := by
  unfold h_G10x16_q
  intro k
  (rw [show @PySem.W.segGoT = _ from PySem.W.Fast.te10295753902157049106, show @PySem.denote = _ from PySem.W.Fast.te11892475500146522536, show treeTable = _ from PySem.W.Fast.te14364793385576792824]; kernel_rfl)
theorem h_G10x16_t (w : World) (os : OsState) : h_G10x16_q (w.withFollow "special-get-raises" true) os := by
  unfold h_G10x16_q
  intro k
  (rw [show @PySem.W.segGoT = _ from PySem.W.Fast.te10295753902157049106, show @PySem.denote = _ from PySem.W.Fast.te11892475500146522536, show treeTable = _ from PySem.W.Fast.te14364793385576792824]; kernel_rfl)
theorem h_G10x16 (w : World) (os : OsState) : ∀ k : Result → Sem Fin, segGoT treeTable p9 w 28 ann9 1 640 (SharedT.mk (treeG10x0 w.params) 87 (@PySem.Life.mk [] [] [] 0 [] [] @Bool.false (@List.toArray @Nat []) [] 0 @Bool.false @Bool.false @Bool.false (0 : Int) [(2000 : Int), (10 : Int), (10 : Int)] @Bool.false 0 @Bool.true [] [] 0 @Bool.false) (Array.mk []) (@PySem.Drawn.mk 0 0 0 0) 692 os) (Thread.mk (denote treeTable (Code.builtin "dict.fromkeys.loop" (Args.mk [(@PySem.Value.ref 85), (@PySem.Value.ref 86), (@PySem.Value.int (120 : Int) 691)] []))) (Code.builtin "dict.fromkeys.loop" (Args.mk [(@PySem.Value.ref 85), (@PySem.Value.ref 86), (@PySem.Value.int (120 : Int) 691)] [])) (@PySem.Pos.mk 17 8 17 42) [Frame.ret k none false [] c9 (@PySem.Pos.mk 17 8 17 42) [(@PySem.Value.ref 82), (@PySem.Value.ref 83), (@PySem.Value.int (120 : Int) 691)], topFrame (@PySem.Pos.mk 0 0 0 0)]) = some ((SharedT.mk (treeG10x16 w.params) 87 (@PySem.Life.mk [] [] [] 0 [] [] @Bool.false (@List.toArray @Nat []) [] 0 @Bool.false @Bool.false @Bool.false (0 : Int) [(2000 : Int), (10 : Int), (10 : Int)] @Bool.false 0 @Bool.true [] [] 0 @Bool.false) (Array.mk []) (@PySem.Drawn.mk 0 0 0 0) 724 os), (Thread.mk (denote treeTable (Code.builtin "dict.fromkeys.loop" (Args.mk [(@PySem.Value.ref 85), (@PySem.Value.ref 86), (@PySem.Value.int (120 : Int) 691)] []))) (Code.builtin "dict.fromkeys.loop" (Args.mk [(@PySem.Value.ref 85), (@PySem.Value.ref 86), (@PySem.Value.int (120 : Int) 691)] [])) (@PySem.Pos.mk 17 8 17 42) [Frame.ret k none false [] c9 (@PySem.Pos.mk 17 8 17 42) [(@PySem.Value.ref 82), (@PySem.Value.ref 83), (@PySem.Value.int (120 : Int) 691)], topFrame (@PySem.Pos.mk 0 0 0 0)])) := byRow2 "special-get-raises" (P := fun w => ∀ os, h_G10x16_q w os) h_G10x16_f h_G10x16_t w os
noncomputable def hG10x32_85 (P : Params) : Obj := (.mk (.ref 77) (some 84) (.dict #[(.mk 0 (.int 0 692) (.int 120 691)), (.mk 1 (.int 1 694) (.int 120 691)), (.mk 2 (.int 2 696) (.int 120 691)), (.mk 3 (.int 3 698) (.int 120 691)), (.mk 4 (.int 4 700) (.int 120 691)), (.mk 5 (.int 5 702) (.int 120 691)), (.mk 6 (.int 6 704) (.int 120 691)), (.mk 7 (.int 7 706) (.int 120 691)), (.mk 8 (.int 8 708) (.int 120 691)), (.mk 9 (.int 9 710) (.int 120 691)), (.mk 10 (.int 10 712) (.int 120 691)), (.mk 11 (.int 11 714) (.int 120 691)), (.mk 12 (.int 12 716) (.int 120 691)), (.mk 13 (.int 13 718) (.int 120 691)), (.mk 14 (.int 14 720) (.int 120 691)), (.mk 15 (.int 15 722) (.int 120 691)), (.mk 16 (.int 16 724) (.int 120 691)), (.mk 17 (.int 17 726) (.int 120 691)), (.mk 18 (.int 18 728) (.int 120 691)), (.mk 19 (.int 19 730) (.int 120 691)), (.mk 20 (.int 20 732) (.int 120 691)), (.mk 21 (.int 21 734) (.int 120 691)), (.mk 22 (.int 22 736) (.int 120 691)), (.mk 23 (.int 23 738) (.int 120 691)), (.mk 24 (.int 24 740) (.int 120 691)), (.mk 25 (.int 25 742) (.int 120 691)), (.mk 26 (.int 26 744) (.int 120 691)), (.mk 27 (.int 27 746) (.int 120 691)), (.mk 28 (.int 28 748) (.int 120 691)), (.mk 29 (.int 29 750) (.int 120 691)), (.mk 30 (.int 30 752) (.int 120 691)), (.mk 31 (.int 31 754) (.int 120 691))] 32) #[])
noncomputable def hG10x32_86 (P : Params) : Obj := (.mk (.type "range_iterator") none (.fields #[.int 32 0, .int 96 0, .int 1 0]) #[])
noncomputable def treeG10x32 (P : Params) : BT := (.node (h0_0 P) (.node (h0_1 P) (.node (hG6_3 P) (.node (h0_7 P) (.node (h0_15 P) (.node (hp_31 P) (.node (hG6_63 P) .nil .nil) .nil) (.node (hG0_47 P) (.node (hG6_79 P) .nil .nil) .nil)) (.node (h0_23 P) (.node (hG0_39 P) (.node (hG6_71 P) .nil .nil) .nil) (.node (hG5_55 P) .nil .nil))) (.node (h0_11 P) (.node (h0_19 P) (.node (hG0_35 P) (.node (hG6_67 P) .nil .nil) .nil) (.node (hG4_51 P) (.node (hG10x0_83 P) .nil .nil) .nil)) (.node (h0_27 P) (.node (hG0_43 P) (.node (hG6_75 P) .nil .nil) .nil) (.node (hG6_59 P) .nil .nil)))) (.node (h0_5 P) (.node (h0_9 P) (.node (h0_17 P) (.node (hG0_33 P) (.node (hG6_65 P) .nil .nil) .nil) (.node (hG4_49 P) (.node (hG6_81 P) .nil .nil) .nil)) (.node (h0_25 P) (.node (hG0_41 P) (.node (hG6_73 P) .nil .nil) .nil) (.node (hG5_57 P) .nil .nil))) (.node (h0_13 P) (.node (h0_21 P) (.node (hG0_37 P) (.node (hG6_69 P) .nil .nil) .nil) (.node (hG4_53 P) (.node (hG10x32_85 P) .nil .nil) .nil)) (.node (hG6_29 P) (.node (hG0_45 P) (.node (hG6_77 P) .nil .nil) .nil) (.node (hG6_61 P) .nil .nil))))) (.node (h0_2 P) (.node (h0_4 P) (.node (h0_8 P) (.node (h0_16 P) (.node (hG0_32 P) (.node (hG6_64 P) .nil .nil) .nil) (.node (hG0_48 P) (.node (hG6_80 P) .nil .nil) .nil)) (.node (h0_24 P) (.node (hG0_40 P) (.node (hG6_72 P) .nil .nil) .nil) (.node (hG5_56 P) .nil .nil))) (.node (h0_12 P) (.node (h0_20 P) (.node (hG0_36 P) (.node (hG6_68 P) .nil .nil) .nil) (.node (hG4_52 P) (.node (hG10x0_84 P) .nil .nil) .nil)) (.node (hp_28 P) (.node (hG0_44 P) (.node (hG6_76 P) .nil .nil) .nil) (.node (hG6_60 P) .nil .nil)))) (.node (h0_6 P) (.node (h0_10 P) (.node (h0_18 P) (.node (hG0_34 P) (.node (hG6_66 P) .nil .nil) .nil) (.node (hG4_50 P) (.node (hG10x0_82 P) .nil .nil) .nil)) (.node (h0_26 P) (.node (hG0_42 P) (.node (hG6_74 P) .nil .nil) .nil) (.node (hG6_58 P) .nil .nil))) (.node (h0_14 P) (.node (h0_22 P) (.node (hG0_38 P) (.node (hG6_70 P) .nil .nil) .nil) (.node (hG5_54 P) (.node (hG10x32_86 P) .nil .nil) .nil)) (.node (hp_30 P) (.node (hG0_46 P) (.node (hG6_78 P) .nil .nil) .nil) (.node (hG6_62 P) .nil .nil))))))
noncomputable def h_G10x32_q (w : World) (os : OsState) : Prop := ∀ k : Result → Sem Fin, segGoT treeTable p9 w 28 ann9 1 640 (SharedT.mk (treeG10x16 w.params) 87 (@PySem.Life.mk [] [] [] 0 [] [] @Bool.false (@List.toArray @Nat []) [] 0 @Bool.false @Bool.false @Bool.false (0 : Int) [(2000 : Int), (10 : Int), (10 : Int)] @Bool.false 0 @Bool.true [] [] 0 @Bool.false) (Array.mk []) (@PySem.Drawn.mk 0 0 0 0) 724 os) (Thread.mk (denote treeTable (Code.builtin "dict.fromkeys.loop" (Args.mk [(@PySem.Value.ref 85), (@PySem.Value.ref 86), (@PySem.Value.int (120 : Int) 691)] []))) (Code.builtin "dict.fromkeys.loop" (Args.mk [(@PySem.Value.ref 85), (@PySem.Value.ref 86), (@PySem.Value.int (120 : Int) 691)] [])) (@PySem.Pos.mk 17 8 17 42) [Frame.ret k none false [] c9 (@PySem.Pos.mk 17 8 17 42) [(@PySem.Value.ref 82), (@PySem.Value.ref 83), (@PySem.Value.int (120 : Int) 691)], topFrame (@PySem.Pos.mk 0 0 0 0)]) = some ((SharedT.mk (treeG10x32 w.params) 87 (@PySem.Life.mk [] [] [] 0 [] [] @Bool.false (@List.toArray @Nat []) [] 0 @Bool.false @Bool.false @Bool.false (0 : Int) [(2000 : Int), (10 : Int), (10 : Int)] @Bool.false 0 @Bool.true [] [] 0 @Bool.false) (Array.mk []) (@PySem.Drawn.mk 0 0 0 0) 756 os), (Thread.mk (denote treeTable (Code.builtin "dict.fromkeys.loop" (Args.mk [(@PySem.Value.ref 85), (@PySem.Value.ref 86), (@PySem.Value.int (120 : Int) 691)] []))) (Code.builtin "dict.fromkeys.loop" (Args.mk [(@PySem.Value.ref 85), (@PySem.Value.ref 86), (@PySem.Value.int (120 : Int) 691)] [])) (@PySem.Pos.mk 17 8 17 42) [Frame.ret k none false [] c9 (@PySem.Pos.mk 17 8 17 42) [(@PySem.Value.ref 82), (@PySem.Value.ref 83), (@PySem.Value.int (120 : Int) 691)], topFrame (@PySem.Pos.mk 0 0 0 0)]))
theorem h_G10x32_f (w : World) (os : OsState) : h_G10x32_q (w.withFollow "special-get-raises" false) os := by
  unfold h_G10x32_q
  intro k
  (rw [show @PySem.W.segGoT = _ from PySem.W.Fast.te10295753902157049106, show @PySem.denote = _ from PySem.W.Fast.te11892475500146522536, show treeTable = _ from PySem.W.Fast.te14364793385576792824]; kernel_rfl)
theorem h_G10x32_t (w : World) (os : OsState) : h_G10x32_q (w.withFollow "special-get-raises" true) os := by
  unfold h_G10x32_q
  intro k
  (rw [show @PySem.W.segGoT = _ from PySem.W.Fast.te10295753902157049106, show @PySem.denote = _ from PySem.W.Fast.te11892475500146522536, show treeTable = _ from PySem.W.Fast.te14364793385576792824]; kernel_rfl)
theorem h_G10x32 (w : World) (os : OsState) : ∀ k : Result → Sem Fin, segGoT treeTable p9 w 28 ann9 1 640 (SharedT.mk (treeG10x16 w.params) 87 (@PySem.Life.mk [] [] [] 0 [] [] @Bool.false (@List.toArray @Nat []) [] 0 @Bool.false @Bool.false @Bool.false (0 : Int) [(2000 : Int), (10 : Int), (10 : Int)] @Bool.false 0 @Bool.true [] [] 0 @Bool.false) (Array.mk []) (@PySem.Drawn.mk 0 0 0 0) 724 os) (Thread.mk (denote treeTable (Code.builtin "dict.fromkeys.loop" (Args.mk [(@PySem.Value.ref 85), (@PySem.Value.ref 86), (@PySem.Value.int (120 : Int) 691)] []))) (Code.builtin "dict.fromkeys.loop" (Args.mk [(@PySem.Value.ref 85), (@PySem.Value.ref 86), (@PySem.Value.int (120 : Int) 691)] [])) (@PySem.Pos.mk 17 8 17 42) [Frame.ret k none false [] c9 (@PySem.Pos.mk 17 8 17 42) [(@PySem.Value.ref 82), (@PySem.Value.ref 83), (@PySem.Value.int (120 : Int) 691)], topFrame (@PySem.Pos.mk 0 0 0 0)]) = some ((SharedT.mk (treeG10x32 w.params) 87 (@PySem.Life.mk [] [] [] 0 [] [] @Bool.false (@List.toArray @Nat []) [] 0 @Bool.false @Bool.false @Bool.false (0 : Int) [(2000 : Int), (10 : Int), (10 : Int)] @Bool.false 0 @Bool.true [] [] 0 @Bool.false) (Array.mk []) (@PySem.Drawn.mk 0 0 0 0) 756 os), (Thread.mk (denote treeTable (Code.builtin "dict.fromkeys.loop" (Args.mk [(@PySem.Value.ref 85), (@PySem.Value.ref 86), (@PySem.Value.int (120 : Int) 691)] []))) (Code.builtin "dict.fromkeys.loop" (Args.mk [(@PySem.Value.ref 85), (@PySem.Value.ref 86), (@PySem.Value.int (120 : Int) 691)] [])) (@PySem.Pos.mk 17 8 17 42) [Frame.ret k none false [] c9 (@PySem.Pos.mk 17 8 17 42) [(@PySem.Value.ref 82), (@PySem.Value.ref 83), (@PySem.Value.int (120 : Int) 691)], topFrame (@PySem.Pos.mk 0 0 0 0)])) := byRow2 "special-get-raises" (P := fun w => ∀ os, h_G10x32_q w os) h_G10x32_f h_G10x32_t w os
noncomputable def hG10x48_85 (P : Params) : Obj := (.mk (.ref 77) (some 84) (.dict #[(.mk 0 (.int 0 692) (.int 120 691)), (.mk 1 (.int 1 694) (.int 120 691)), (.mk 2 (.int 2 696) (.int 120 691)), (.mk 3 (.int 3 698) (.int 120 691)), (.mk 4 (.int 4 700) (.int 120 691)), (.mk 5 (.int 5 702) (.int 120 691)), (.mk 6 (.int 6 704) (.int 120 691)), (.mk 7 (.int 7 706) (.int 120 691)), (.mk 8 (.int 8 708) (.int 120 691)), (.mk 9 (.int 9 710) (.int 120 691)), (.mk 10 (.int 10 712) (.int 120 691)), (.mk 11 (.int 11 714) (.int 120 691)), (.mk 12 (.int 12 716) (.int 120 691)), (.mk 13 (.int 13 718) (.int 120 691)), (.mk 14 (.int 14 720) (.int 120 691)), (.mk 15 (.int 15 722) (.int 120 691)), (.mk 16 (.int 16 724) (.int 120 691)), (.mk 17 (.int 17 726) (.int 120 691)), (.mk 18 (.int 18 728) (.int 120 691)), (.mk 19 (.int 19 730) (.int 120 691)), (.mk 20 (.int 20 732) (.int 120 691)), (.mk 21 (.int 21 734) (.int 120 691)), (.mk 22 (.int 22 736) (.int 120 691)), (.mk 23 (.int 23 738) (.int 120 691)), (.mk 24 (.int 24 740) (.int 120 691)), (.mk 25 (.int 25 742) (.int 120 691)), (.mk 26 (.int 26 744) (.int 120 691)), (.mk 27 (.int 27 746) (.int 120 691)), (.mk 28 (.int 28 748) (.int 120 691)), (.mk 29 (.int 29 750) (.int 120 691)), (.mk 30 (.int 30 752) (.int 120 691)), (.mk 31 (.int 31 754) (.int 120 691)), (.mk 32 (.int 32 756) (.int 120 691)), (.mk 33 (.int 33 758) (.int 120 691)), (.mk 34 (.int 34 760) (.int 120 691)), (.mk 35 (.int 35 762) (.int 120 691)), (.mk 36 (.int 36 764) (.int 120 691)), (.mk 37 (.int 37 766) (.int 120 691)), (.mk 38 (.int 38 768) (.int 120 691)), (.mk 39 (.int 39 770) (.int 120 691)), (.mk 40 (.int 40 772) (.int 120 691)), (.mk 41 (.int 41 774) (.int 120 691)), (.mk 42 (.int 42 776) (.int 120 691)), (.mk 43 (.int 43 778) (.int 120 691)), (.mk 44 (.int 44 780) (.int 120 691)), (.mk 45 (.int 45 782) (.int 120 691)), (.mk 46 (.int 46 784) (.int 120 691)), (.mk 47 (.int 47 786) (.int 120 691))] 48) #[])
noncomputable def hG10x48_86 (P : Params) : Obj := (.mk (.type "range_iterator") none (.fields #[.int 48 0, .int 80 0, .int 1 0]) #[])
noncomputable def treeG10x48 (P : Params) : BT := (.node (h0_0 P) (.node (h0_1 P) (.node (hG6_3 P) (.node (h0_7 P) (.node (h0_15 P) (.node (hp_31 P) (.node (hG6_63 P) .nil .nil) .nil) (.node (hG0_47 P) (.node (hG6_79 P) .nil .nil) .nil)) (.node (h0_23 P) (.node (hG0_39 P) (.node (hG6_71 P) .nil .nil) .nil) (.node (hG5_55 P) .nil .nil))) (.node (h0_11 P) (.node (h0_19 P) (.node (hG0_35 P) (.node (hG6_67 P) .nil .nil) .nil) (.node (hG4_51 P) (.node (hG10x0_83 P) .nil .nil) .nil)) (.node (h0_27 P) (.node (hG0_43 P) (.node (hG6_75 P) .nil .nil) .nil) (.node (hG6_59 P) .nil .nil)))) (.node (h0_5 P) (.node (h0_9 P) (.node (h0_17 P) (.node (hG0_33 P) (.node (hG6_65 P) .nil .nil) .nil) (.node (hG4_49 P) (.node (hG6_81 P) .nil .nil) .nil)) (.node (h0_25 P) (.node (hG0_41 P) (.node (hG6_73 P) .nil .nil) .nil) (.node (hG5_57 P) .nil .nil))) (.node (h0_13 P) (.node (h0_21 P) (.node (hG0_37 P) (.node (hG6_69 P) .nil .nil) .nil) (.node (hG4_53 P) (.node (hG10x48_85 P) .nil .nil) .nil)) (.node (hG6_29 P) (.node (hG0_45 P) (.node (hG6_77 P) .nil .nil) .nil) (.node (hG6_61 P) .nil .nil))))) (.node (h0_2 P) (.node (h0_4 P) (.node (h0_8 P) (.node (h0_16 P) (.node (hG0_32 P) (.node (hG6_64 P) .nil .nil) .nil) (.node (hG0_48 P) (.node (hG6_80 P) .nil .nil) .nil)) (.node (h0_24 P) (.node (hG0_40 P) (.node (hG6_72 P) .nil .nil) .nil) (.node (hG5_56 P) .nil .nil))) (.node (h0_12 P) (.node (h0_20 P) (.node (hG0_36 P) (.node (hG6_68 P) .nil .nil) .nil) (.node (hG4_52 P) (.node (hG10x0_84 P) .nil .nil) .nil)) (.node (hp_28 P) (.node (hG0_44 P) (.node (hG6_76 P) .nil .nil) .nil) (.node (hG6_60 P) .nil .nil)))) (.node (h0_6 P) (.node (h0_10 P) (.node (h0_18 P) (.node (hG0_34 P) (.node (hG6_66 P) .nil .nil) .nil) (.node (hG4_50 P) (.node (hG10x0_82 P) .nil .nil) .nil)) (.node (h0_26 P) (.node (hG0_42 P) (.node (hG6_74 P) .nil .nil) .nil) (.node (hG6_58 P) .nil .nil))) (.node (h0_14 P) (.node (h0_22 P) (.node (hG0_38 P) (.node (hG6_70 P) .nil .nil) .nil) (.node (hG5_54 P) (.node (hG10x48_86 P) .nil .nil) .nil)) (.node (hp_30 P) (.node (hG0_46 P) (.node (hG6_78 P) .nil .nil) .nil) (.node (hG6_62 P) .nil .nil))))))
noncomputable def h_G10x48_q (w : World) (os : OsState) : Prop := ∀ k : Result → Sem Fin, segGoT treeTable p9 w 28 ann9 1 640 (SharedT.mk (treeG10x32 w.params) 87 (@PySem.Life.mk [] [] [] 0 [] [] @Bool.false (@List.toArray @Nat []) [] 0 @Bool.false @Bool.false @Bool.false (0 : Int) [(2000 : Int), (10 : Int), (10 : Int)] @Bool.false 0 @Bool.true [] [] 0 @Bool.false) (Array.mk []) (@PySem.Drawn.mk 0 0 0 0) 756 os) (Thread.mk (denote treeTable (Code.builtin "dict.fromkeys.loop" (Args.mk [(@PySem.Value.ref 85), (@PySem.Value.ref 86), (@PySem.Value.int (120 : Int) 691)] []))) (Code.builtin "dict.fromkeys.loop" (Args.mk [(@PySem.Value.ref 85), (@PySem.Value.ref 86), (@PySem.Value.int (120 : Int) 691)] [])) (@PySem.Pos.mk 17 8 17 42) [Frame.ret k none false [] c9 (@PySem.Pos.mk 17 8 17 42) [(@PySem.Value.ref 82), (@PySem.Value.ref 83), (@PySem.Value.int (120 : Int) 691)], topFrame (@PySem.Pos.mk 0 0 0 0)]) = some ((SharedT.mk (treeG10x48 w.params) 87 (@PySem.Life.mk [] [] [] 0 [] [] @Bool.false (@List.toArray @Nat []) [] 0 @Bool.false @Bool.false @Bool.false (0 : Int) [(2000 : Int), (10 : Int), (10 : Int)] @Bool.false 0 @Bool.true [] [] 0 @Bool.false) (Array.mk []) (@PySem.Drawn.mk 0 0 0 0) 788 os), (Thread.mk (denote treeTable (Code.builtin "dict.fromkeys.loop" (Args.mk [(@PySem.Value.ref 85), (@PySem.Value.ref 86), (@PySem.Value.int (120 : Int) 691)] []))) (Code.builtin "dict.fromkeys.loop" (Args.mk [(@PySem.Value.ref 85), (@PySem.Value.ref 86), (@PySem.Value.int (120 : Int) 691)] [])) (@PySem.Pos.mk 17 8 17 42) [Frame.ret k none false [] c9 (@PySem.Pos.mk 17 8 17 42) [(@PySem.Value.ref 82), (@PySem.Value.ref 83), (@PySem.Value.int (120 : Int) 691)], topFrame (@PySem.Pos.mk 0 0 0 0)]))
theorem h_G10x48_f (w : World) (os : OsState) : h_G10x48_q (w.withFollow "special-get-raises" false) os := by
  unfold h_G10x48_q
  intro k
  (rw [show @PySem.W.segGoT = _ from PySem.W.Fast.te10295753902157049106, show @PySem.denote = _ from PySem.W.Fast.te11892475500146522536, show treeTable = _ from PySem.W.Fast.te14364793385576792824]; kernel_rfl)
theorem h_G10x48_t (w : World) (os : OsState) : h_G10x48_q (w.withFollow "special-get-raises" true) os := by
  unfold h_G10x48_q
  intro k
  (rw [show @PySem.W.segGoT = _ from PySem.W.Fast.te10295753902157049106, show @PySem.denote = _ from PySem.W.Fast.te11892475500146522536, show treeTable = _ from PySem.W.Fast.te14364793385576792824]; kernel_rfl)
theorem h_G10x48 (w : World) (os : OsState) : ∀ k : Result → Sem Fin, segGoT treeTable p9 w 28 ann9 1 640 (SharedT.mk (treeG10x32 w.params) 87 (@PySem.Life.mk [] [] [] 0 [] [] @Bool.false (@List.toArray @Nat []) [] 0 @Bool.false @Bool.false @Bool.false (0 : Int) [(2000 : Int), (10 : Int), (10 : Int)] @Bool.false 0 @Bool.true [] [] 0 @Bool.false) (Array.mk []) (@PySem.Drawn.mk 0 0 0 0) 756 os) (Thread.mk (denote treeTable (Code.builtin "dict.fromkeys.loop" (Args.mk [(@PySem.Value.ref 85), (@PySem.Value.ref 86), (@PySem.Value.int (120 : Int) 691)] []))) (Code.builtin "dict.fromkeys.loop" (Args.mk [(@PySem.Value.ref 85), (@PySem.Value.ref 86), (@PySem.Value.int (120 : Int) 691)] [])) (@PySem.Pos.mk 17 8 17 42) [Frame.ret k none false [] c9 (@PySem.Pos.mk 17 8 17 42) [(@PySem.Value.ref 82), (@PySem.Value.ref 83), (@PySem.Value.int (120 : Int) 691)], topFrame (@PySem.Pos.mk 0 0 0 0)]) = some ((SharedT.mk (treeG10x48 w.params) 87 (@PySem.Life.mk [] [] [] 0 [] [] @Bool.false (@List.toArray @Nat []) [] 0 @Bool.false @Bool.false @Bool.false (0 : Int) [(2000 : Int), (10 : Int), (10 : Int)] @Bool.false 0 @Bool.true [] [] 0 @Bool.false) (Array.mk []) (@PySem.Drawn.mk 0 0 0 0) 788 os), (Thread.mk (denote treeTable (Code.builtin "dict.fromkeys.loop" (Args.mk [(@PySem.Value.ref 85), (@PySem.Value.ref 86), (@PySem.Value.int (120 : Int) 691)] []))) (Code.builtin "dict.fromkeys.loop" (Args.mk [(@PySem.Value.ref 85), (@PySem.Value.ref 86), (@PySem.Value.int (120 : Int) 691)] [])) (@PySem.Pos.mk 17 8 17 42) [Frame.ret k none false [] c9 (@PySem.Pos.mk 17 8 17 42) [(@PySem.Value.ref 82), (@PySem.Value.ref 83), (@PySem.Value.int (120 : Int) 691)], topFrame (@PySem.Pos.mk 0 0 0 0)])) := byRow2 "special-get-raises" (P := fun w => ∀ os, h_G10x48_q w os) h_G10x48_f h_G10x48_t w os
noncomputable def hG10x64_85 (P : Params) : Obj := (.mk (.ref 77) (some 84) (.dict #[(.mk 0 (.int 0 692) (.int 120 691)), (.mk 1 (.int 1 694) (.int 120 691)), (.mk 2 (.int 2 696) (.int 120 691)), (.mk 3 (.int 3 698) (.int 120 691)), (.mk 4 (.int 4 700) (.int 120 691)), (.mk 5 (.int 5 702) (.int 120 691)), (.mk 6 (.int 6 704) (.int 120 691)), (.mk 7 (.int 7 706) (.int 120 691)), (.mk 8 (.int 8 708) (.int 120 691)), (.mk 9 (.int 9 710) (.int 120 691)), (.mk 10 (.int 10 712) (.int 120 691)), (.mk 11 (.int 11 714) (.int 120 691)), (.mk 12 (.int 12 716) (.int 120 691)), (.mk 13 (.int 13 718) (.int 120 691)), (.mk 14 (.int 14 720) (.int 120 691)), (.mk 15 (.int 15 722) (.int 120 691)), (.mk 16 (.int 16 724) (.int 120 691)), (.mk 17 (.int 17 726) (.int 120 691)), (.mk 18 (.int 18 728) (.int 120 691)), (.mk 19 (.int 19 730) (.int 120 691)), (.mk 20 (.int 20 732) (.int 120 691)), (.mk 21 (.int 21 734) (.int 120 691)), (.mk 22 (.int 22 736) (.int 120 691)), (.mk 23 (.int 23 738) (.int 120 691)), (.mk 24 (.int 24 740) (.int 120 691)), (.mk 25 (.int 25 742) (.int 120 691)), (.mk 26 (.int 26 744) (.int 120 691)), (.mk 27 (.int 27 746) (.int 120 691)), (.mk 28 (.int 28 748) (.int 120 691)), (.mk 29 (.int 29 750) (.int 120 691)), (.mk 30 (.int 30 752) (.int 120 691)), (.mk 31 (.int 31 754) (.int 120 691)), (.mk 32 (.int 32 756) (.int 120 691)), (.mk 33 (.int 33 758) (.int 120 691)), (.mk 34 (.int 34 760) (.int 120 691)), (.mk 35 (.int 35 762) (.int 120 691)), (.mk 36 (.int 36 764) (.int 120 691)), (.mk 37 (.int 37 766) (.int 120 691)), (.mk 38 (.int 38 768) (.int 120 691)), (.mk 39 (.int 39 770) (.int 120 691)), (.mk 40 (.int 40 772) (.int 120 691)), (.mk 41 (.int 41 774) (.int 120 691)), (.mk 42 (.int 42 776) (.int 120 691)), (.mk 43 (.int 43 778) (.int 120 691)), (.mk 44 (.int 44 780) (.int 120 691)), (.mk 45 (.int 45 782) (.int 120 691)), (.mk 46 (.int 46 784) (.int 120 691)), (.mk 47 (.int 47 786) (.int 120 691)), (.mk 48 (.int 48 788) (.int 120 691)), (.mk 49 (.int 49 790) (.int 120 691)), (.mk 50 (.int 50 792) (.int 120 691)), (.mk 51 (.int 51 794) (.int 120 691)), (.mk 52 (.int 52 796) (.int 120 691)), (.mk 53 (.int 53 798) (.int 120 691)), (.mk 54 (.int 54 800) (.int 120 691)), (.mk 55 (.int 55 802) (.int 120 691)), (.mk 56 (.int 56 804) (.int 120 691)), (.mk 57 (.int 57 806) (.int 120 691)), (.mk 58 (.int 58 808) (.int 120 691)), (.mk 59 (.int 59 810) (.int 120 691)), (.mk 60 (.int 60 812) (.int 120 691)), (.mk 61 (.int 61 814) (.int 120 691)), (.mk 62 (.int 62 816) (.int 120 691)), (.mk 63 (.int 63 818) (.int 120 691))] 64) #[])
noncomputable def hG10x64_86 (P : Params) : Obj := (.mk (.type "range_iterator") none (.fields #[.int 64 0, .int 64 0, .int 1 0]) #[])
noncomputable def treeG10x64 (P : Params) : BT := (.node (h0_0 P) (.node (h0_1 P) (.node (hG6_3 P) (.node (h0_7 P) (.node (h0_15 P) (.node (hp_31 P) (.node (hG6_63 P) .nil .nil) .nil) (.node (hG0_47 P) (.node (hG6_79 P) .nil .nil) .nil)) (.node (h0_23 P) (.node (hG0_39 P) (.node (hG6_71 P) .nil .nil) .nil) (.node (hG5_55 P) .nil .nil))) (.node (h0_11 P) (.node (h0_19 P) (.node (hG0_35 P) (.node (hG6_67 P) .nil .nil) .nil) (.node (hG4_51 P) (.node (hG10x0_83 P) .nil .nil) .nil)) (.node (h0_27 P) (.node (hG0_43 P) (.node (hG6_75 P) .nil .nil) .nil) (.node (hG6_59 P) .nil .nil)))) (.node (h0_5 P) (.node (h0_9 P) (.node (h0_17 P) (.node (hG0_33 P) (.node (hG6_65 P) .nil .nil) .nil) (.node (hG4_49 P) (.node (hG6_81 P) .nil .nil) .nil)) (.node (h0_25 P) (.node (hG0_41 P) (.node (hG6_73 P) .nil .nil) .nil) (.node (hG5_57 P) .nil .nil))) (.node (h0_13 P) (.node (h0_21 P) (.node (hG0_37 P) (.node (hG6_69 P) .nil .nil) .nil) (.node (hG4_53 P) (.node (hG10x64_85 P) .nil .nil) .nil)) (.node (hG6_29 P) (.node (hG0_45 P) (.node (hG6_77 P) .nil .nil) .nil) (.node (hG6_61 P) .nil .nil))))) (.node (h0_2 P) (.node (h0_4 P) (.node (h0_8 P) (.node (h0_16 P) (.node (hG0_32 P) (.node (hG6_64 P) .nil .nil) .nil) (.node (hG0_48 P) (.node (hG6_80 P) .nil .nil) .nil)) (.node (h0_24 P) (.node (hG0_40 P) (.node (hG6_72 P) .nil .nil) .nil) (.node (hG5_56 P) .nil .nil))) (.node (h0_12 P) (.node (h0_20 P) (.node (hG0_36 P) (.node (hG6_68 P) .nil .nil) .nil) (.node (hG4_52 P) (.node (hG10x0_84 P) .nil .nil) .nil)) (.node (hp_28 P) (.node (hG0_44 P) (.node (hG6_76 P) .nil .nil) .nil) (.node (hG6_60 P) .nil .nil)))) (.node (h0_6 P) (.node (h0_10 P) (.node (h0_18 P) (.node (hG0_34 P) (.node (hG6_66 P) .nil .nil) .nil) (.node (hG4_50 P) (.node (hG10x0_82 P) .nil .nil) .nil)) (.node (h0_26 P) (.node (hG0_42 P) (.node (hG6_74 P) .nil .nil) .nil) (.node (hG6_58 P) .nil .nil))) (.node (h0_14 P) (.node (h0_22 P) (.node (hG0_38 P) (.node (hG6_70 P) .nil .nil) .nil) (.node (hG5_54 P) (.node (hG10x64_86 P) .nil .nil) .nil)) (.node (hp_30 P) (.node (hG0_46 P) (.node (hG6_78 P) .nil .nil) .nil) (.node (hG6_62 P) .nil .nil))))))
noncomputable def h_G10x64_q (w : World) (os : OsState) : Prop := ∀ k : Result → Sem Fin, segGoT treeTable p9 w 28 ann9 1 640 (SharedT.mk (treeG10x48 w.params) 87 (@PySem.Life.mk [] [] [] 0 [] [] @Bool.false (@List.toArray @Nat []) [] 0 @Bool.false @Bool.false @Bool.false (0 : Int) [(2000 : Int), (10 : Int), (10 : Int)] @Bool.false 0 @Bool.true [] [] 0 @Bool.false) (Array.mk []) (@PySem.Drawn.mk 0 0 0 0) 788 os) (Thread.mk (denote treeTable (Code.builtin "dict.fromkeys.loop" (Args.mk [(@PySem.Value.ref 85), (@PySem.Value.ref 86), (@PySem.Value.int (120 : Int) 691)] []))) (Code.builtin "dict.fromkeys.loop" (Args.mk [(@PySem.Value.ref 85), (@PySem.Value.ref 86), (@PySem.Value.int (120 : Int) 691)] [])) (@PySem.Pos.mk 17 8 17 42) [Frame.ret k none false [] c9 (@PySem.Pos.mk 17 8 17 42) [(@PySem.Value.ref 82), (@PySem.Value.ref 83), (@PySem.Value.int (120 : Int) 691)], topFrame (@PySem.Pos.mk 0 0 0 0)]) = some ((SharedT.mk (treeG10x64 w.params) 87 (@PySem.Life.mk [] [] [] 0 [] [] @Bool.false (@List.toArray @Nat []) [] 0 @Bool.false @Bool.false @Bool.false (0 : Int) [(2000 : Int), (10 : Int), (10 : Int)] @Bool.false 0 @Bool.true [] [] 0 @Bool.false) (Array.mk []) (@PySem.Drawn.mk 0 0 0 0) 820 os), (Thread.mk (denote treeTable (Code.builtin "dict.fromkeys.loop" (Args.mk [(@PySem.Value.ref 85), (@PySem.Value.ref 86), (@PySem.Value.int (120 : Int) 691)] []))) (Code.builtin "dict.fromkeys.loop" (Args.mk [(@PySem.Value.ref 85), (@PySem.Value.ref 86), (@PySem.Value.int (120 : Int) 691)] [])) (@PySem.Pos.mk 17 8 17 42) [Frame.ret k none false [] c9 (@PySem.Pos.mk 17 8 17 42) [(@PySem.Value.ref 82), (@PySem.Value.ref 83), (@PySem.Value.int (120 : Int) 691)], topFrame (@PySem.Pos.mk 0 0 0 0)]))
theorem h_G10x64_f (w : World) (os : OsState) : h_G10x64_q (w.withFollow "special-get-raises" false) os := by
  unfold h_G10x64_q
  intro k
  (rw [show @PySem.W.segGoT = _ from PySem.W.Fast.te10295753902157049106, show @PySem.denote = _ from PySem.W.Fast.te11892475500146522536, show treeTable = _ from PySem.W.Fast.te14364793385576792824]; kernel_rfl)
theorem h_G10x64_t (w : World) (os : OsState) : h_G10x64_q (w.withFollow "special-get-raises" true) os := by
  unfold h_G10x64_q
  intro k
  (rw [show @PySem.W.segGoT = _ from PySem.W.Fast.te10295753902157049106, show @PySem.denote = _ from PySem.W.Fast.te11892475500146522536, show treeTable = _ from PySem.W.Fast.te14364793385576792824]; kernel_rfl)
theorem h_G10x64 (w : World) (os : OsState) : ∀ k : Result → Sem Fin, segGoT treeTable p9 w 28 ann9 1 640 (SharedT.mk (treeG10x48 w.params) 87 (@PySem.Life.mk [] [] [] 0 [] [] @Bool.false (@List.toArray @Nat []) [] 0 @Bool.false @Bool.false @Bool.false (0 : Int) [(2000 : Int), (10 : Int), (10 : Int)] @Bool.false 0 @Bool.true [] [] 0 @Bool.false) (Array.mk []) (@PySem.Drawn.mk 0 0 0 0) 788 os) (Thread.mk (denote treeTable (Code.builtin "dict.fromkeys.loop" (Args.mk [(@PySem.Value.ref 85), (@PySem.Value.ref 86), (@PySem.Value.int (120 : Int) 691)] []))) (Code.builtin "dict.fromkeys.loop" (Args.mk [(@PySem.Value.ref 85), (@PySem.Value.ref 86), (@PySem.Value.int (120 : Int) 691)] [])) (@PySem.Pos.mk 17 8 17 42) [Frame.ret k none false [] c9 (@PySem.Pos.mk 17 8 17 42) [(@PySem.Value.ref 82), (@PySem.Value.ref 83), (@PySem.Value.int (120 : Int) 691)], topFrame (@PySem.Pos.mk 0 0 0 0)]) = some ((SharedT.mk (treeG10x64 w.params) 87 (@PySem.Life.mk [] [] [] 0 [] [] @Bool.false (@List.toArray @Nat []) [] 0 @Bool.false @Bool.false @Bool.false (0 : Int) [(2000 : Int), (10 : Int), (10 : Int)] @Bool.false 0 @Bool.true [] [] 0 @Bool.false) (Array.mk []) (@PySem.Drawn.mk 0 0 0 0) 820 os), (Thread.mk (denote treeTable (Code.builtin "dict.fromkeys.loop" (Args.mk [(@PySem.Value.ref 85), (@PySem.Value.ref 86), (@PySem.Value.int (120 : Int) 691)] []))) (Code.builtin "dict.fromkeys.loop" (Args.mk [(@PySem.Value.ref 85), (@PySem.Value.ref 86), (@PySem.Value.int (120 : Int) 691)] [])) (@PySem.Pos.mk 17 8 17 42) [Frame.ret k none false [] c9 (@PySem.Pos.mk 17 8 17 42) [(@PySem.Value.ref 82), (@PySem.Value.ref 83), (@PySem.Value.int (120 : Int) 691)], topFrame (@PySem.Pos.mk 0 0 0 0)])) := byRow2 "special-get-raises" (P := fun w => ∀ os, h_G10x64_q w os) h_G10x64_f h_G10x64_t w os
noncomputable def hG10x80_85 (P : Params) : Obj := (.mk (.ref 77) (some 84) (.dict #[(.mk 0 (.int 0 692) (.int 120 691)), (.mk 1 (.int 1 694) (.int 120 691)), (.mk 2 (.int 2 696) (.int 120 691)), (.mk 3 (.int 3 698) (.int 120 691)), (.mk 4 (.int 4 700) (.int 120 691)), (.mk 5 (.int 5 702) (.int 120 691)), (.mk 6 (.int 6 704) (.int 120 691)), (.mk 7 (.int 7 706) (.int 120 691)), (.mk 8 (.int 8 708) (.int 120 691)), (.mk 9 (.int 9 710) (.int 120 691)), (.mk 10 (.int 10 712) (.int 120 691)), (.mk 11 (.int 11 714) (.int 120 691)), (.mk 12 (.int 12 716) (.int 120 691)), (.mk 13 (.int 13 718) (.int 120 691)), (.mk 14 (.int 14 720) (.int 120 691)), (.mk 15 (.int 15 722) (.int 120 691)), (.mk 16 (.int 16 724) (.int 120 691)), (.mk 17 (.int 17 726) (.int 120 691)), (.mk 18 (.int 18 728) (.int 120 691)), (.mk 19 (.int 19 730) (.int 120 691)), (.mk 20 (.int 20 732) (.int 120 691)), (.mk 21 (.int 21 734) (.int 120 691)), (.mk 22 (.int 22 736) (.int 120 691)), (.mk 23 (.int 23 738) (.int 120 691)), (.mk 24 (.int 24 740) (.int 120 691)), (.mk 25 (.int 25 742) (.int 120 691)), (.mk 26 (.int 26 744) (.int 120 691)), (.mk 27 (.int 27 746) (.int 120 691)), (.mk 28 (.int 28 748) (.int 120 691)), (.mk 29 (.int 29 750) (.int 120 691)), (.mk 30 (.int 30 752) (.int 120 691)), (.mk 31 (.int 31 754) (.int 120 691)), (.mk 32 (.int 32 756) (.int 120 691)), (.mk 33 (.int 33 758) (.int 120 691)), (.mk 34 (.int 34 760) (.int 120 691)), (.mk 35 (.int 35 762) (.int 120 691)), (.mk 36 (.int 36 764) (.int 120 691)), (.mk 37 (.int 37 766) (.int 120 691)), (.mk 38 (.int 38 768) (.int 120 691)), (.mk 39 (.int 39 770) (.int 120 691)), (.mk 40 (.int 40 772) (.int 120 691)), (.mk 41 (.int 41 774) (.int 120 691)), (.mk 42 (.int 42 776) (.int 120 691)), (.mk 43 (.int 43 778) (.int 120 691)), (.mk 44 (.int 44 780) (.int 120 691)), (.mk 45 (.int 45 782) (.int 120 691)), (.mk 46 (.int 46 784) (.int 120 691)), (.mk 47 (.int 47 786) (.int 120 691)), (.mk 48 (.int 48 788) (.int 120 691)), (.mk 49 (.int 49 790) (.int 120 691)), (.mk 50 (.int 50 792) (.int 120 691)), (.mk 51 (.int 51 794) (.int 120 691)), (.mk 52 (.int 52 796) (.int 120 691)), (.mk 53 (.int 53 798) (.int 120 691)), (.mk 54 (.int 54 800) (.int 120 691)), (.mk 55 (.int 55 802) (.int 120 691)), (.mk 56 (.int 56 804) (.int 120 691)), (.mk 57 (.int 57 806) (.int 120 691)), (.mk 58 (.int 58 808) (.int 120 691)), (.mk 59 (.int 59 810) (.int 120 691)), (.mk 60 (.int 60 812) (.int 120 691)), (.mk 61 (.int 61 814) (.int 120 691)), (.mk 62 (.int 62 816) (.int 120 691)), (.mk 63 (.int 63 818) (.int 120 691)), (.mk 64 (.int 64 820) (.int 120 691)), (.mk 65 (.int 65 822) (.int 120 691)), (.mk 66 (.int 66 824) (.int 120 691)), (.mk 67 (.int 67 826) (.int 120 691)), (.mk 68 (.int 68 828) (.int 120 691)), (.mk 69 (.int 69 830) (.int 120 691)), (.mk 70 (.int 70 832) (.int 120 691)), (.mk 71 (.int 71 834) (.int 120 691)), (.mk 72 (.int 72 836) (.int 120 691)), (.mk 73 (.int 73 838) (.int 120 691)), (.mk 74 (.int 74 840) (.int 120 691)), (.mk 75 (.int 75 842) (.int 120 691)), (.mk 76 (.int 76 844) (.int 120 691)), (.mk 77 (.int 77 846) (.int 120 691)), (.mk 78 (.int 78 848) (.int 120 691)), (.mk 79 (.int 79 850) (.int 120 691))] 80) #[])
noncomputable def hG10x80_86 (P : Params) : Obj := (.mk (.type "range_iterator") none (.fields #[.int 80 0, .int 48 0, .int 1 0]) #[])
noncomputable def treeG10x80 (P : Params) : BT := (.node (h0_0 P) (.node (h0_1 P) (.node (hG6_3 P) (.node (h0_7 P) (.node (h0_15 P) (.node (hp_31 P) (.node (hG6_63 P) .nil .nil) .nil) (.node (hG0_47 P) (.node (hG6_79 P) .nil .nil) .nil)) (.node (h0_23 P) (.node (hG0_39 P) (.node (hG6_71 P) .nil .nil) .nil) (.node (hG5_55 P) .nil .nil))) (.node (h0_11 P) (.node (h0_19 P) (.node (hG0_35 P) (.node (hG6_67 P) .nil .nil) .nil) (.node (hG4_51 P) (.node (hG10x0_83 P) .nil .nil) .nil)) (.node (h0_27 P) (.node (hG0_43 P) (.node (hG6_75 P) .nil .nil) .nil) (.node (hG6_59 P) .nil .nil)))) (.node (h0_5 P) (.node (h0_9 P) (.node (h0_17 P) (.node (hG0_33 P) (.node (hG6_65 P) .nil .nil) .nil) (.node (hG4_49 P) (.node (hG6_81 P) .nil .nil) .nil)) (.node (h0_25 P) (.node (hG0_41 P) (.node (hG6_73 P) .nil .nil) .nil) (.node (hG5_57 P) .nil .nil))) (.node (h0_13 P) (.node (h0_21 P) (.node (hG0_37 P) (.node (hG6_69 P) .nil .nil) .nil) (.node (hG4_53 P) (.node (hG10x80_85 P) .nil .nil) .nil)) (.node (hG6_29 P) (.node (hG0_45 P) (.node (hG6_77 P) .nil .nil) .nil) (.node (hG6_61 P) .nil .nil))))) (.node (h0_2 P) (.node (h0_4 P) (.node (h0_8 P) (.node (h0_16 P) (.node (hG0_32 P) (.node (hG6_64 P) .nil .nil) .nil) (.node (hG0_48 P) (.node (hG6_80 P) .nil .nil) .nil)) (.node (h0_24 P) (.node (hG0_40 P) (.node (hG6_72 P) .nil .nil) .nil) (.node (hG5_56 P) .nil .nil))) (.node (h0_12 P) (.node (h0_20 P) (.node (hG0_36 P) (.node (hG6_68 P) .nil .nil) .nil) (.node (hG4_52 P) (.node (hG10x0_84 P) .nil .nil) .nil)) (.node (hp_28 P) (.node (hG0_44 P) (.node (hG6_76 P) .nil .nil) .nil) (.node (hG6_60 P) .nil .nil)))) (.node (h0_6 P) (.node (h0_10 P) (.node (h0_18 P) (.node (hG0_34 P) (.node (hG6_66 P) .nil .nil) .nil) (.node (hG4_50 P) (.node (hG10x0_82 P) .nil .nil) .nil)) (.node (h0_26 P) (.node (hG0_42 P) (.node (hG6_74 P) .nil .nil) .nil) (.node (hG6_58 P) .nil .nil))) (.node (h0_14 P) (.node (h0_22 P) (.node (hG0_38 P) (.node (hG6_70 P) .nil .nil) .nil) (.node (hG5_54 P) (.node (hG10x80_86 P) .nil .nil) .nil)) (.node (hp_30 P) (.node (hG0_46 P) (.node (hG6_78 P) .nil .nil) .nil) (.node (hG6_62 P) .nil .nil))))))
noncomputable def h_G10x80_q (w : World) (os : OsState) : Prop := ∀ k : Result → Sem Fin, segGoT treeTable p9 w 28 ann9 1 640 (SharedT.mk (treeG10x64 w.params) 87 (@PySem.Life.mk [] [] [] 0 [] [] @Bool.false (@List.toArray @Nat []) [] 0 @Bool.false @Bool.false @Bool.false (0 : Int) [(2000 : Int), (10 : Int), (10 : Int)] @Bool.false 0 @Bool.true [] [] 0 @Bool.false) (Array.mk []) (@PySem.Drawn.mk 0 0 0 0) 820 os) (Thread.mk (denote treeTable (Code.builtin "dict.fromkeys.loop" (Args.mk [(@PySem.Value.ref 85), (@PySem.Value.ref 86), (@PySem.Value.int (120 : Int) 691)] []))) (Code.builtin "dict.fromkeys.loop" (Args.mk [(@PySem.Value.ref 85), (@PySem.Value.ref 86), (@PySem.Value.int (120 : Int) 691)] [])) (@PySem.Pos.mk 17 8 17 42) [Frame.ret k none false [] c9 (@PySem.Pos.mk 17 8 17 42) [(@PySem.Value.ref 82), (@PySem.Value.ref 83), (@PySem.Value.int (120 : Int) 691)], topFrame (@PySem.Pos.mk 0 0 0 0)]) = some ((SharedT.mk (treeG10x80 w.params) 87 (@PySem.Life.mk [] [] [] 0 [] [] @Bool.false (@List.toArray @Nat []) [] 0 @Bool.false @Bool.false @Bool.false (0 : Int) [(2000 : Int), (10 : Int), (10 : Int)] @Bool.false 0 @Bool.true [] [] 0 @Bool.false) (Array.mk []) (@PySem.Drawn.mk 0 0 0 0) 852 os), (Thread.mk (denote treeTable (Code.builtin "dict.fromkeys.loop" (Args.mk [(@PySem.Value.ref 85), (@PySem.Value.ref 86), (@PySem.Value.int (120 : Int) 691)] []))) (Code.builtin "dict.fromkeys.loop" (Args.mk [(@PySem.Value.ref 85), (@PySem.Value.ref 86), (@PySem.Value.int (120 : Int) 691)] [])) (@PySem.Pos.mk 17 8 17 42) [Frame.ret k none false [] c9 (@PySem.Pos.mk 17 8 17 42) [(@PySem.Value.ref 82), (@PySem.Value.ref 83), (@PySem.Value.int (120 : Int) 691)], topFrame (@PySem.Pos.mk 0 0 0 0)]))
theorem h_G10x80_f (w : World) (os : OsState) : h_G10x80_q (w.withFollow "special-get-raises" false) os := by
  unfold h_G10x80_q
  intro k
  (rw [show @PySem.W.segGoT = _ from PySem.W.Fast.te10295753902157049106, show @PySem.denote = _ from PySem.W.Fast.te11892475500146522536, show treeTable = _ from PySem.W.Fast.te14364793385576792824]; kernel_rfl)
theorem h_G10x80_t (w : World) (os : OsState) : h_G10x80_q (w.withFollow "special-get-raises" true) os := by
  unfold h_G10x80_q
  intro k
  (rw [show @PySem.W.segGoT = _ from PySem.W.Fast.te10295753902157049106, show @PySem.denote = _ from PySem.W.Fast.te11892475500146522536, show treeTable = _ from PySem.W.Fast.te14364793385576792824]; kernel_rfl)
theorem h_G10x80 (w : World) (os : OsState) : ∀ k : Result → Sem Fin, segGoT treeTable p9 w 28 ann9 1 640 (SharedT.mk (treeG10x64 w.params) 87 (@PySem.Life.mk [] [] [] 0 [] [] @Bool.false (@List.toArray @Nat []) [] 0 @Bool.false @Bool.false @Bool.false (0 : Int) [(2000 : Int), (10 : Int), (10 : Int)] @Bool.false 0 @Bool.true [] [] 0 @Bool.false) (Array.mk []) (@PySem.Drawn.mk 0 0 0 0) 820 os) (Thread.mk (denote treeTable (Code.builtin "dict.fromkeys.loop" (Args.mk [(@PySem.Value.ref 85), (@PySem.Value.ref 86), (@PySem.Value.int (120 : Int) 691)] []))) (Code.builtin "dict.fromkeys.loop" (Args.mk [(@PySem.Value.ref 85), (@PySem.Value.ref 86), (@PySem.Value.int (120 : Int) 691)] [])) (@PySem.Pos.mk 17 8 17 42) [Frame.ret k none false [] c9 (@PySem.Pos.mk 17 8 17 42) [(@PySem.Value.ref 82), (@PySem.Value.ref 83), (@PySem.Value.int (120 : Int) 691)], topFrame (@PySem.Pos.mk 0 0 0 0)]) = some ((SharedT.mk (treeG10x80 w.params) 87 (@PySem.Life.mk [] [] [] 0 [] [] @Bool.false (@List.toArray @Nat []) [] 0 @Bool.false @Bool.false @Bool.false (0 : Int) [(2000 : Int), (10 : Int), (10 : Int)] @Bool.false 0 @Bool.true [] [] 0 @Bool.false) (Array.mk []) (@PySem.Drawn.mk 0 0 0 0) 852 os), (Thread.mk (denote treeTable (Code.builtin "dict.fromkeys.loop" (Args.mk [(@PySem.Value.ref 85), (@PySem.Value.ref 86), (@PySem.Value.int (120 : Int) 691)] []))) (Code.builtin "dict.fromkeys.loop" (Args.mk [(@PySem.Value.ref 85), (@PySem.Value.ref 86), (@PySem.Value.int (120 : Int) 691)] [])) (@PySem.Pos.mk 17 8 17 42) [Frame.ret k none false [] c9 (@PySem.Pos.mk 17 8 17 42) [(@PySem.Value.ref 82), (@PySem.Value.ref 83), (@PySem.Value.int (120 : Int) 691)], topFrame (@PySem.Pos.mk 0 0 0 0)])) := byRow2 "special-get-raises" (P := fun w => ∀ os, h_G10x80_q w os) h_G10x80_f h_G10x80_t w os
noncomputable def hG10x96_85 (P : Params) : Obj := (.mk (.ref 77) (some 84) (.dict #[(.mk 0 (.int 0 692) (.int 120 691)), (.mk 1 (.int 1 694) (.int 120 691)), (.mk 2 (.int 2 696) (.int 120 691)), (.mk 3 (.int 3 698) (.int 120 691)), (.mk 4 (.int 4 700) (.int 120 691)), (.mk 5 (.int 5 702) (.int 120 691)), (.mk 6 (.int 6 704) (.int 120 691)), (.mk 7 (.int 7 706) (.int 120 691)), (.mk 8 (.int 8 708) (.int 120 691)), (.mk 9 (.int 9 710) (.int 120 691)), (.mk 10 (.int 10 712) (.int 120 691)), (.mk 11 (.int 11 714) (.int 120 691)), (.mk 12 (.int 12 716) (.int 120 691)), (.mk 13 (.int 13 718) (.int 120 691)), (.mk 14 (.int 14 720) (.int 120 691)), (.mk 15 (.int 15 722) (.int 120 691)), (.mk 16 (.int 16 724) (.int 120 691)), (.mk 17 (.int 17 726) (.int 120 691)), (.mk 18 (.int 18 728) (.int 120 691)), (.mk 19 (.int 19 730) (.int 120 691)), (.mk 20 (.int 20 732) (.int 120 691)), (.mk 21 (.int 21 734) (.int 120 691)), (.mk 22 (.int 22 736) (.int 120 691)), (.mk 23 (.int 23 738) (.int 120 691)), (.mk 24 (.int 24 740) (.int 120 691)), (.mk 25 (.int 25 742) (.int 120 691)), (.mk 26 (.int 26 744) (.int 120 691)), (.mk 27 (.int 27 746) (.int 120 691)), (.mk 28 (.int 28 748) (.int 120 691)), (.mk 29 (.int 29 750) (.int 120 691)), (.mk 30 (.int 30 752) (.int 120 691)), (.mk 31 (.int 31 754) (.int 120 691)), (.mk 32 (.int 32 756) (.int 120 691)), (.mk 33 (.int 33 758) (.int 120 691)), (.mk 34 (.int 34 760) (.int 120 691)), (.mk 35 (.int 35 762) (.int 120 691)), (.mk 36 (.int 36 764) (.int 120 691)), (.mk 37 (.int 37 766) (.int 120 691)), (.mk 38 (.int 38 768) (.int 120 691)), (.mk 39 (.int 39 770) (.int 120 691)), (.mk 40 (.int 40 772) (.int 120 691)), (.mk 41 (.int 41 774) (.int 120 691)), (.mk 42 (.int 42 776) (.int 120 691)), (.mk 43 (.int 43 778) (.int 120 691)), (.mk 44 (.int 44 780) (.int 120 691)), (.mk 45 (.int 45 782) (.int 120 691)), (.mk 46 (.int 46 784) (.int 120 691)), (.mk 47 (.int 47 786) (.int 120 691)), (.mk 48 (.int 48 788) (.int 120 691)), (.mk 49 (.int 49 790) (.int 120 691)), (.mk 50 (.int 50 792) (.int 120 691)), (.mk 51 (.int 51 794) (.int 120 691)), (.mk 52 (.int 52 796) (.int 120 691)), (.mk 53 (.int 53 798) (.int 120 691)), (.mk 54 (.int 54 800) (.int 120 691)), (.mk 55 (.int 55 802) (.int 120 691)), (.mk 56 (.int 56 804) (.int 120 691)), (.mk 57 (.int 57 806) (.int 120 691)), (.mk 58 (.int 58 808) (.int 120 691)), (.mk 59 (.int 59 810) (.int 120 691)), (.mk 60 (.int 60 812) (.int 120 691)), (.mk 61 (.int 61 814) (.int 120 691)), (.mk 62 (.int 62 816) (.int 120 691)), (.mk 63 (.int 63 818) (.int 120 691)), (.mk 64 (.int 64 820) (.int 120 691)), (.mk 65 (.int 65 822) (.int 120 691)), (.mk 66 (.int 66 824) (.int 120 691)), (.mk 67 (.int 67 826) (.int 120 691)), (.mk 68 (.int 68 828) (.int 120 691)), (.mk 69 (.int 69 830) (.int 120 691)), (.mk 70 (.int 70 832) (.int 120 691)), (.mk 71 (.int 71 834) (.int 120 691)), (.mk 72 (.int 72 836) (.int 120 691)), (.mk 73 (.int 73 838) (.int 120 691)), (.mk 74 (.int 74 840) (.int 120 691)), (.mk 75 (.int 75 842) (.int 120 691)), (.mk 76 (.int 76 844) (.int 120 691)), (.mk 77 (.int 77 846) (.int 120 691)), (.mk 78 (.int 78 848) (.int 120 691)), (.mk 79 (.int 79 850) (.int 120 691)), (.mk 80 (.int 80 852) (.int 120 691)), (.mk 81 (.int 81 854) (.int 120 691)), (.mk 82 (.int 82 856) (.int 120 691)), (.mk 83 (.int 83 858) (.int 120 691)), (.mk 84 (.int 84 860) (.int 120 691)), (.mk 85 (.int 85 862) (.int 120 691)), (.mk 86 (.int 86 864) (.int 120 691)), (.mk 87 (.int 87 866) (.int 120 691)), (.mk 88 (.int 88 868) (.int 120 691)), (.mk 89 (.int 89 870) (.int 120 691)), (.mk 90 (.int 90 872) (.int 120 691)), (.mk 91 (.int 91 874) (.int 120 691)), (.mk 92 (.int 92 876) (.int 120 691)), (.mk 93 (.int 93 878) (.int 120 691)), (.mk 94 (.int 94 880) (.int 120 691)), (.mk 95 (.int 95 882) (.int 120 691))] 96) #[])
noncomputable def hG10x96_86 (P : Params) : Obj := (.mk (.type "range_iterator") none (.fields #[.int 96 0, .int 32 0, .int 1 0]) #[])
noncomputable def treeG10x96 (P : Params) : BT := (.node (h0_0 P) (.node (h0_1 P) (.node (hG6_3 P) (.node (h0_7 P) (.node (h0_15 P) (.node (hp_31 P) (.node (hG6_63 P) .nil .nil) .nil) (.node (hG0_47 P) (.node (hG6_79 P) .nil .nil) .nil)) (.node (h0_23 P) (.node (hG0_39 P) (.node (hG6_71 P) .nil .nil) .nil) (.node (hG5_55 P) .nil .nil))) (.node (h0_11 P) (.node (h0_19 P) (.node (hG0_35 P) (.node (hG6_67 P) .nil .nil) .nil) (.node (hG4_51 P) (.node (hG10x0_83 P) .nil .nil) .nil)) (.node (h0_27 P) (.node (hG0_43 P) (.node (hG6_75 P) .nil .nil) .nil) (.node (hG6_59 P) .nil .nil)))) (.node (h0_5 P) (.node (h0_9 P) (.node (h0_17 P) (.node (hG0_33 P) (.node (hG6_65 P) .nil .nil) .nil) (.node (hG4_49 P) (.node (hG6_81 P) .nil .nil) .nil)) (.node (h0_25 P) (.node (hG0_41 P) (.node (hG6_73 P) .nil .nil) .nil) (.node (hG5_57 P) .nil .nil))) (.node (h0_13 P) (.node (h0_21 P) (.node (hG0_37 P) (.node (hG6_69 P) .nil .nil) .nil) (.node (hG4_53 P) (.node (hG10x96_85 P) .nil .nil) .nil)) (.node (hG6_29 P) (.node (hG0_45 P) (.node (hG6_77 P) .nil .nil) .nil) (.node (hG6_61 P) .nil .nil))))) (.node (h0_2 P) (.node (h0_4 P) (.node (h0_8 P) (.node (h0_16 P) (.node (hG0_32 P) (.node (hG6_64 P) .nil .nil) .nil) (.node (hG0_48 P) (.node (hG6_80 P) .nil .nil) .nil)) (.node (h0_24 P) (.node (hG0_40 P) (.node (hG6_72 P) .nil .nil) .nil) (.node (hG5_56 P) .nil .nil))) (.node (h0_12 P) (.node (h0_20 P) (.node (hG0_36 P) (.node (hG6_68 P) .nil .nil) .nil) (.node (hG4_52 P) (.node (hG10x0_84 P) .nil .nil) .nil)) (.node (hp_28 P) (.node (hG0_44 P) (.node (hG6_76 P) .nil .nil) .nil) (.node (hG6_60 P) .nil .nil)))) (.node (h0_6 P) (.node (h0_10 P) (.node (h0_18 P) (.node (hG0_34 P) (.node (hG6_66 P) .nil .nil) .nil) (.node (hG4_50 P) (.node (hG10x0_82 P) .nil .nil) .nil)) (.node (h0_26 P) (.node (hG0_42 P) (.node (hG6_74 P) .nil .nil) .nil) (.node (hG6_58 P) .nil .nil))) (.node (h0_14 P) (.node (h0_22 P) (.node (hG0_38 P) (.node (hG6_70 P) .nil .nil) .nil) (.node (hG5_54 P) (.node (hG10x96_86 P) .nil .nil) .nil)) (.node (hp_30 P) (.node (hG0_46 P) (.node (hG6_78 P) .nil .nil) .nil) (.node (hG6_62 P) .nil .nil))))))
noncomputable def h_G10x96_q (w : World) (os : OsState) : Prop := ∀ k : Result → Sem Fin, segGoT treeTable p9 w 28 ann9 1 640 (SharedT.mk (treeG10x80 w.params) 87 (@PySem.Life.mk [] [] [] 0 [] [] @Bool.false (@List.toArray @Nat []) [] 0 @Bool.false @Bool.false @Bool.false (0 : Int) [(2000 : Int), (10 : Int), (10 : Int)] @Bool.false 0 @Bool.true [] [] 0 @Bool.false) (Array.mk []) (@PySem.Drawn.mk 0 0 0 0) 852 os) (Thread.mk (denote treeTable (Code.builtin "dict.fromkeys.loop" (Args.mk [(@PySem.Value.ref 85), (@PySem.Value.ref 86), (@PySem.Value.int (120 : Int) 691)] []))) (Code.builtin "dict.fromkeys.loop" (Args.mk [(@PySem.Value.ref 85), (@PySem.Value.ref 86), (@PySem.Value.int (120 : Int) 691)] [])) (@PySem.Pos.mk 17 8 17 42) [Frame.ret k none false [] c9 (@PySem.Pos.mk 17 8 17 42) [(@PySem.Value.ref 82), (@PySem.Value.ref 83), (@PySem.Value.int (120 : Int) 691)], topFrame (@PySem.Pos.mk 0 0 0 0)]) = some ((SharedT.mk (treeG10x96 w.params) 87 (@PySem.Life.mk [] [] [] 0 [] [] @Bool.false (@List.toArray @Nat []) [] 0 @Bool.false @Bool.false @Bool.false (0 : Int) [(2000 : Int), (10 : Int), (10 : Int)] @Bool.false 0 @Bool.true [] [] 0 @Bool.false) (Array.mk []) (@PySem.Drawn.mk 0 0 0 0) 884 os), (Thread.mk (denote treeTable (Code.builtin "dict.fromkeys.loop" (Args.mk [(@PySem.Value.ref 85), (@PySem.Value.ref 86), (@PySem.Value.int (120 : Int) 691)] []))) (Code.builtin "dict.fromkeys.loop" (Args.mk [(@PySem.Value.ref 85), (@PySem.Value.ref 86), (@PySem.Value.int (120 : Int) 691)] [])) (@PySem.Pos.mk 17 8 17 42) [Frame.ret k none false [] c9 (@PySem.Pos.mk 17 8 17 42) [(@PySem.Value.ref 82), (@PySem.Value.ref 83), (@PySem.Value.int (120 : Int) 691)], topFrame (@PySem.Pos.mk 0 0 0 0)]))
theorem h_G10x96_f (w : World) (os : OsState) : h_G10x96_q (w.withFollow "special-get-raises" false) os := by
  unfold h_G10x96_q
  intro k
  (rw [show @PySem.W.segGoT = _ from PySem.W.Fast.te10295753902157049106, show @PySem.denote = _ from PySem.W.Fast.te11892475500146522536, show treeTable = _ from PySem.W.Fast.te14364793385576792824]; kernel_rfl)
theorem h_G10x96_t (w : World) (os : OsState) : h_G10x96_q (w.withFollow "special-get-raises" true) os := by
  unfold h_G10x96_q
  intro k
  (rw [show @PySem.W.segGoT = _ from PySem.W.Fast.te10295753902157049106, show @PySem.denote = _ from PySem.W.Fast.te11892475500146522536, show treeTable = _ from PySem.W.Fast.te14364793385576792824]; kernel_rfl)
theorem h_G10x96 (w : World) (os : OsState) : ∀ k : Result → Sem Fin, segGoT treeTable p9 w 28 ann9 1 640 (SharedT.mk (treeG10x80 w.params) 87 (@PySem.Life.mk [] [] [] 0 [] [] @Bool.false (@List.toArray @Nat []) [] 0 @Bool.false @Bool.false @Bool.false (0 : Int) [(2000 : Int), (10 : Int), (10 : Int)] @Bool.false 0 @Bool.true [] [] 0 @Bool.false) (Array.mk []) (@PySem.Drawn.mk 0 0 0 0) 852 os) (Thread.mk (denote treeTable (Code.builtin "dict.fromkeys.loop" (Args.mk [(@PySem.Value.ref 85), (@PySem.Value.ref 86), (@PySem.Value.int (120 : Int) 691)] []))) (Code.builtin "dict.fromkeys.loop" (Args.mk [(@PySem.Value.ref 85), (@PySem.Value.ref 86), (@PySem.Value.int (120 : Int) 691)] [])) (@PySem.Pos.mk 17 8 17 42) [Frame.ret k none false [] c9 (@PySem.Pos.mk 17 8 17 42) [(@PySem.Value.ref 82), (@PySem.Value.ref 83), (@PySem.Value.int (120 : Int) 691)], topFrame (@PySem.Pos.mk 0 0 0 0)]) = some ((SharedT.mk (treeG10x96 w.params) 87 (@PySem.Life.mk [] [] [] 0 [] [] @Bool.false (@List.toArray @Nat []) [] 0 @Bool.false @Bool.false @Bool.false (0 : Int) [(2000 : Int), (10 : Int), (10 : Int)] @Bool.false 0 @Bool.true [] [] 0 @Bool.false) (Array.mk []) (@PySem.Drawn.mk 0 0 0 0) 884 os), (Thread.mk (denote treeTable (Code.builtin "dict.fromkeys.loop" (Args.mk [(@PySem.Value.ref 85), (@PySem.Value.ref 86), (@PySem.Value.int (120 : Int) 691)] []))) (Code.builtin "dict.fromkeys.loop" (Args.mk [(@PySem.Value.ref 85), (@PySem.Value.ref 86), (@PySem.Value.int (120 : Int) 691)] [])) (@PySem.Pos.mk 17 8 17 42) [Frame.ret k none false [] c9 (@PySem.Pos.mk 17 8 17 42) [(@PySem.Value.ref 82), (@PySem.Value.ref 83), (@PySem.Value.int (120 : Int) 691)], topFrame (@PySem.Pos.mk 0 0 0 0)])) := byRow2 "special-get-raises" (P := fun w => ∀ os, h_G10x96_q w os) h_G10x96_f h_G10x96_t w os
noncomputable def hG10x112_85 (P : Params) : Obj := (.mk (.ref 77) (some 84) (.dict #[(.mk 0 (.int 0 692) (.int 120 691)), (.mk 1 (.int 1 694) (.int 120 691)), (.mk 2 (.int 2 696) (.int 120 691)), (.mk 3 (.int 3 698) (.int 120 691)), (.mk 4 (.int 4 700) (.int 120 691)), (.mk 5 (.int 5 702) (.int 120 691)), (.mk 6 (.int 6 704) (.int 120 691)), (.mk 7 (.int 7 706) (.int 120 691)), (.mk 8 (.int 8 708) (.int 120 691)), (.mk 9 (.int 9 710) (.int 120 691)), (.mk 10 (.int 10 712) (.int 120 691)), (.mk 11 (.int 11 714) (.int 120 691)), (.mk 12 (.int 12 716) (.int 120 691)), (.mk 13 (.int 13 718) (.int 120 691)), (.mk 14 (.int 14 720) (.int 120 691)), (.mk 15 (.int 15 722) (.int 120 691)), (.mk 16 (.int 16 724) (.int 120 691)), (.mk 17 (.int 17 726) (.int 120 691)), (.mk 18 (.int 18 728) (.int 120 691)), (.mk 19 (.int 19 730) (.int 120 691)), (.mk 20 (.int 20 732) (.int 120 691)), (.mk 21 (.int 21 734) (.int 120 691)), (.mk 22 (.int 22 736) (.int 120 691)), (.mk 23 (.int 23 738) (.int 120 691)), (.mk 24 (.int 24 740) (.int 120 691)), (.mk 25 (.int 25 742) (.int 120 691)), (.mk 26 (.int 26 744) (.int 120 691)), (.mk 27 (.int 27 746) (.int 120 691)), (.mk 28 (.int 28 748) (.int 120 691)), (.mk 29 (.int 29 750) (.int 120 691)), (.mk 30 (.int 30 752) (.int 120 691)), (.mk 31 (.int 31 754) (.int 120 691)), (.mk 32 (.int 32 756) (.int 120 691)), (.mk 33 (.int 33 758) (.int 120 691)), (.mk 34 (.int 34 760) (.int 120 691)), (.mk 35 (.int 35 762) (.int 120 691)), (.mk 36 (.int 36 764) (.int 120 691)), (.mk 37 (.int 37 766) (.int 120 691)), (.mk 38 (.int 38 768) (.int 120 691)), (.mk 39 (.int 39 770) (.int 120 691)), (.mk 40 (.int 40 772) (.int 120 691)), (.mk 41 (.int 41 774) (.int 120 691)), (.mk 42 (.int 42 776) (.int 120 691)), (.mk 43 (.int 43 778) (.int 120 691)), (.mk 44 (.int 44 780) (.int 120 691)), (.mk 45 (.int 45 782) (.int 120 691)), (.mk 46 (.int 46 784) (.int 120 691)), (.mk 47 (.int 47 786) (.int 120 691)), (.mk 48 (.int 48 788) (.int 120 691)), (.mk 49 (.int 49 790) (.int 120 691)), (.mk 50 (.int 50 792) (.int 120 691)), (.mk 51 (.int 51 794) (.int 120 691)), (.mk 52 (.int 52 796) (.int 120 691)), (.mk 53 (.int 53 798) (.int 120 691)), (.mk 54 (.int 54 800) (.int 120 691)), (.mk 55 (.int 55 802) (.int 120 691)), (.mk 56 (.int 56 804) (.int 120 691)), (.mk 57 (.int 57 806) (.int 120 691)), (.mk 58 (.int 58 808) (.int 120 691)), (.mk 59 (.int 59 810) (.int 120 691)), (.mk 60 (.int 60 812) (.int 120 691)), (.mk 61 (.int 61 814) (.int 120 691)), (.mk 62 (.int 62 816) (.int 120 691)), (.mk 63 (.int 63 818) (.int 120 691)), (.mk 64 (.int 64 820) (.int 120 691)), (.mk 65 (.int 65 822) (.int 120 691)), (.mk 66 (.int 66 824) (.int 120 691)), (.mk 67 (.int 67 826) (.int 120 691)), (.mk 68 (.int 68 828) (.int 120 691)), (.mk 69 (.int 69 830) (.int 120 691)), (.mk 70 (.int 70 832) (.int 120 691)), (.mk 71 (.int 71 834) (.int 120 691)), (.mk 72 (.int 72 836) (.int 120 691)), (.mk 73 (.int 73 838) (.int 120 691)), (.mk 74 (.int 74 840) (.int 120 691)), (.mk 75 (.int 75 842) (.int 120 691)), (.mk 76 (.int 76 844) (.int 120 691)), (.mk 77 (.int 77 846) (.int 120 691)), (.mk 78 (.int 78 848) (.int 120 691)), (.mk 79 (.int 79 850) (.int 120 691)), (.mk 80 (.int 80 852) (.int 120 691)), (.mk 81 (.int 81 854) (.int 120 691)), (.mk 82 (.int 82 856) (.int 120 691)), (.mk 83 (.int 83 858) (.int 120 691)), (.mk 84 (.int 84 860) (.int 120 691)), (.mk 85 (.int 85 862) (.int 120 691)), (.mk 86 (.int 86 864) (.int 120 691)), (.mk 87 (.int 87 866) (.int 120 691)), (.mk 88 (.int 88 868) (.int 120 691)), (.mk 89 (.int 89 870) (.int 120 691)), (.mk 90 (.int 90 872) (.int 120 691)), (.mk 91 (.int 91 874) (.int 120 691)), (.mk 92 (.int 92 876) (.int 120 691)), (.mk 93 (.int 93 878) (.int 120 691)), (.mk 94 (.int 94 880) (.int 120 691)), (.mk 95 (.int 95 882) (.int 120 691)), (.mk 96 (.int 96 884) (.int 120 691)), (.mk 97 (.int 97 886) (.int 120 691)), (.mk 98 (.int 98 888) (.int 120 691)), (.mk 99 (.int 99 890) (.int 120 691)), (.mk 100 (.int 100 892) (.int 120 691)), (.mk 101 (.int 101 894) (.int 120 691)), (.mk 102 (.int 102 896) (.int 120 691)), (.mk 103 (.int 103 898) (.int 120 691)), (.mk 104 (.int 104 900) (.int 120 691)), (.mk 105 (.int 105 902) (.int 120 691)), (.mk 106 (.int 106 904) (.int 120 691)), (.mk 107 (.int 107 906) (.int 120 691)), (.mk 108 (.int 108 908) (.int 120 691)), (.mk 109 (.int 109 910) (.int 120 691)), (.mk 110 (.int 110 912) (.int 120 691)), (.mk 111 (.int 111 914) (.int 120 691))] 112) #[])
noncomputable def hG10x112_86 (P : Params) : Obj := (.mk (.type "range_iterator") none (.fields #[.int 112 0, .int 16 0, .int 1 0]) #[])
noncomputable def treeG10x112 (P : Params) : BT := (.node (h0_0 P) (.node (h0_1 P) (.node (hG6_3 P) (.node (h0_7 P) (.node (h0_15 P) (.node (hp_31 P) (.node (hG6_63 P) .nil .nil) .nil) (.node (hG0_47 P) (.node (hG6_79 P) .nil .nil) .nil)) (.node (h0_23 P) (.node (hG0_39 P) (.node (hG6_71 P) .nil .nil) .nil) (.node (hG5_55 P) .nil .nil))) (.node (h0_11 P) (.node (h0_19 P) (.node (hG0_35 P) (.node (hG6_67 P) .nil .nil) .nil) (.node (hG4_51 P) (.node (hG10x0_83 P) .nil .nil) .nil)) (.node (h0_27 P) (.node (hG0_43 P) (.node (hG6_75 P) .nil .nil) .nil) (.node (hG6_59 P) .nil .nil)))) (.node (h0_5 P) (.node (h0_9 P) (.node (h0_17 P) (.node (hG0_33 P) (.node (hG6_65 P) .nil .nil) .nil) (.node (hG4_49 P) (.node (hG6_81 P) .nil .nil) .nil)) (.node (h0_25 P) (.node (hG0_41 P) (.node (hG6_73 P) .nil .nil) .nil) (.node (hG5_57 P) .nil .nil))) (.node (h0_13 P) (.node (h0_21 P) (.node (hG0_37 P) (.node (hG6_69 P) .nil .nil) .nil) (.node (hG4_53 P) (.node (hG10x112_85 P) .nil .nil) .nil)) (.node (hG6_29 P) (.node (hG0_45 P) (.node (hG6_77 P) .nil .nil) .nil) (.node (hG6_61 P) .nil .nil))))) (.node (h0_2 P) (.node (h0_4 P) (.node (h0_8 P) (.node (h0_16 P) (.node (hG0_32 P) (.node (hG6_64 P) .nil .nil) .nil) (.node (hG0_48 P) (.node (hG6_80 P) .nil .nil) .nil)) (.node (h0_24 P) (.node (hG0_40 P) (.node (hG6_72 P) .nil .nil) .nil) (.node (hG5_56 P) .nil .nil))) (.node (h0_12 P) (.node (h0_20 P) (.node (hG0_36 P) (.node (hG6_68 P) .nil .nil) .nil) (.node (hG4_52 P) (.node (hG10x0_84 P) .nil .nil) .nil)) (.node (hp_28 P) (.node (hG0_44 P) (.node (hG6_76 P) .nil .nil) .nil) (.node (hG6_60 P) .nil .nil)))) (.node (h0_6 P) (.node (h0_10 P) (.node (h0_18 P) (.node (hG0_34 P) (.node (hG6_66 P) .nil .nil) .nil) (.node (hG4_50 P) (.node (hG10x0_82 P) .nil .nil) .nil)) (.node (h0_26 P) (.node (hG0_42 P) (.node (hG6_74 P) .nil .nil) .nil) (.node (hG6_58 P) .nil .nil))) (.node (h0_14 P) (.node (h0_22 P) (.node (hG0_38 P) (.node (hG6_70 P) .nil .nil) .nil) (.node (hG5_54 P) (.node (hG10x112_86 P) .nil .nil) .nil)) (.node (hp_30 P) (.node (hG0_46 P) (.node (hG6_78 P) .nil .nil) .nil) (.node (hG6_62 P) .nil .nil))))))
noncomputable def h_G10x112_q (w : World) (os : OsState) : Prop := ∀ k : Result → Sem Fin, segGoT treeTable p9 w 28 ann9 1 640 (SharedT.mk (treeG10x96 w.params) 87 (@PySem.Life.mk [] [] [] 0 [] [] @Bool.false (@List.toArray @Nat []) [] 0 @Bool.false @Bool.false @Bool.false (0 : Int) [(2000 : Int), (10 : Int), (10 : Int)] @Bool.false 0 @Bool.true [] [] 0 @Bool.false) (Array.mk []) (@PySem.Drawn.mk 0 0 0 0) 884 os) (Thread.mk (denote treeTable (Code.builtin "dict.fromkeys.loop" (Args.mk [(@PySem.Value.ref 85), (@PySem.Value.ref 86), (@PySem.Value.int (120 : Int) 691)] []))) (Code.builtin "dict.fromkeys.loop" (Args.mk [(@PySem.Value.ref 85), (@PySem.Value.ref 86), (@PySem.Value.int (120 : Int) 691)] [])) (@PySem.Pos.mk 17 8 17 42) [Frame.ret k none false [] c9 (@PySem.Pos.mk 17 8 17 42) [(@PySem.Value.ref 82), (@PySem.Value.ref 83), (@PySem.Value.int (120 : Int) 691)], topFrame (@PySem.Pos.mk 0 0 0 0)]) = some ((SharedT.mk (treeG10x112 w.params) 87 (@PySem.Life.mk [] [] [] 0 [] [] @Bool.false (@List.toArray @Nat []) [] 0 @Bool.false @Bool.false @Bool.false (0 : Int) [(2000 : Int), (10 : Int), (10 : Int)] @Bool.false 0 @Bool.true [] [] 0 @Bool.false) (Array.mk []) (@PySem.Drawn.mk 0 0 0 0) 916 os), (Thread.mk (denote treeTable (Code.builtin "dict.fromkeys.loop" (Args.mk [(@PySem.Value.ref 85), (@PySem.Value.ref 86), (@PySem.Value.int (120 : Int) 691)] []))) (Code.builtin "dict.fromkeys.loop" (Args.mk [(@PySem.Value.ref 85), (@PySem.Value.ref 86), (@PySem.Value.int (120 : Int) 691)] [])) (@PySem.Pos.mk 17 8 17 42) [Frame.ret k none false [] c9 (@PySem.Pos.mk 17 8 17 42) [(@PySem.Value.ref 82), (@PySem.Value.ref 83), (@PySem.Value.int (120 : Int) 691)], topFrame (@PySem.Pos.mk 0 0 0 0)]))
theorem h_G10x112_f (w : World) (os : OsState) : h_G10x112_q (w.withFollow "special-get-raises" false) os := by
  unfold h_G10x112_q
  intro k
  (rw [show @PySem.W.segGoT = _ from PySem.W.Fast.te10295753902157049106, show @PySem.denote = _ from PySem.W.Fast.te11892475500146522536, show treeTable = _ from PySem.W.Fast.te14364793385576792824]; kernel_rfl)
theorem h_G10x112_t (w : World) (os : OsState) : h_G10x112_q (w.withFollow "special-get-raises" true) os := by
  unfold h_G10x112_q
  intro k
  (rw [show @PySem.W.segGoT = _ from PySem.W.Fast.te10295753902157049106, show @PySem.denote = _ from PySem.W.Fast.te11892475500146522536, show treeTable = _ from PySem.W.Fast.te14364793385576792824]; kernel_rfl)
theorem h_G10x112 (w : World) (os : OsState) : ∀ k : Result → Sem Fin, segGoT treeTable p9 w 28 ann9 1 640 (SharedT.mk (treeG10x96 w.params) 87 (@PySem.Life.mk [] [] [] 0 [] [] @Bool.false (@List.toArray @Nat []) [] 0 @Bool.false @Bool.false @Bool.false (0 : Int) [(2000 : Int), (10 : Int), (10 : Int)] @Bool.false 0 @Bool.true [] [] 0 @Bool.false) (Array.mk []) (@PySem.Drawn.mk 0 0 0 0) 884 os) (Thread.mk (denote treeTable (Code.builtin "dict.fromkeys.loop" (Args.mk [(@PySem.Value.ref 85), (@PySem.Value.ref 86), (@PySem.Value.int (120 : Int) 691)] []))) (Code.builtin "dict.fromkeys.loop" (Args.mk [(@PySem.Value.ref 85), (@PySem.Value.ref 86), (@PySem.Value.int (120 : Int) 691)] [])) (@PySem.Pos.mk 17 8 17 42) [Frame.ret k none false [] c9 (@PySem.Pos.mk 17 8 17 42) [(@PySem.Value.ref 82), (@PySem.Value.ref 83), (@PySem.Value.int (120 : Int) 691)], topFrame (@PySem.Pos.mk 0 0 0 0)]) = some ((SharedT.mk (treeG10x112 w.params) 87 (@PySem.Life.mk [] [] [] 0 [] [] @Bool.false (@List.toArray @Nat []) [] 0 @Bool.false @Bool.false @Bool.false (0 : Int) [(2000 : Int), (10 : Int), (10 : Int)] @Bool.false 0 @Bool.true [] [] 0 @Bool.false) (Array.mk []) (@PySem.Drawn.mk 0 0 0 0) 916 os), (Thread.mk (denote treeTable (Code.builtin "dict.fromkeys.loop" (Args.mk [(@PySem.Value.ref 85), (@PySem.Value.ref 86), (@PySem.Value.int (120 : Int) 691)] []))) (Code.builtin "dict.fromkeys.loop" (Args.mk [(@PySem.Value.ref 85), (@PySem.Value.ref 86), (@PySem.Value.int (120 : Int) 691)] [])) (@PySem.Pos.mk 17 8 17 42) [Frame.ret k none false [] c9 (@PySem.Pos.mk 17 8 17 42) [(@PySem.Value.ref 82), (@PySem.Value.ref 83), (@PySem.Value.int (120 : Int) 691)], topFrame (@PySem.Pos.mk 0 0 0 0)])) := byRow2 "special-get-raises" (P := fun w => ∀ os, h_G10x112_q w os) h_G10x112_f h_G10x112_t w os
noncomputable def hG10x128_85 (P : Params) : Obj := (.mk (.ref 77) (some 84) (.dict #[(.mk 0 (.int 0 692) (.int 120 691)), (.mk 1 (.int 1 694) (.int 120 691)), (.mk 2 (.int 2 696) (.int 120 691)), (.mk 3 (.int 3 698) (.int 120 691)), (.mk 4 (.int 4 700) (.int 120 691)), (.mk 5 (.int 5 702) (.int 120 691)), (.mk 6 (.int 6 704) (.int 120 691)), (.mk 7 (.int 7 706) (.int 120 691)), (.mk 8 (.int 8 708) (.int 120 691)), (.mk 9 (.int 9 710) (.int 120 691)), (.mk 10 (.int 10 712) (.int 120 691)), (.mk 11 (.int 11 714) (.int 120 691)), (.mk 12 (.int 12 716) (.int 120 691)), (.mk 13 (.int 13 718) (.int 120 691)), (.mk 14 (.int 14 720) (.int 120 691)), (.mk 15 (.int 15 722) (.int 120 691)), (.mk 16 (.int 16 724) (.int 120 691)), (.mk 17 (.int 17 726) (.int 120 691)), (.mk 18 (.int 18 728) (.int 120 691)), (.mk 19 (.int 19 730) (.int 120 691)), (.mk 20 (.int 20 732) (.int 120 691)), (.mk 21 (.int 21 734) (.int 120 691)), (.mk 22 (.int 22 736) (.int 120 691)), (.mk 23 (.int 23 738) (.int 120 691)), (.mk 24 (.int 24 740) (.int 120 691)), (.mk 25 (.int 25 742) (.int 120 691)), (.mk 26 (.int 26 744) (.int 120 691)), (.mk 27 (.int 27 746) (.int 120 691)), (.mk 28 (.int 28 748) (.int 120 691)), (.mk 29 (.int 29 750) (.int 120 691)), (.mk 30 (.int 30 752) (.int 120 691)), (.mk 31 (.int 31 754) (.int 120 691)), (.mk 32 (.int 32 756) (.int 120 691)), (.mk 33 (.int 33 758) (.int 120 691)), (.mk 34 (.int 34 760) (.int 120 691)), (.mk 35 (.int 35 762) (.int 120 691)), (.mk 36 (.int 36 764) (.int 120 691)), (.mk 37 (.int 37 766) (.int 120 691)), (.mk 38 (.int 38 768) (.int 120 691)), (.mk 39 (.int 39 770) (.int 120 691)), (.mk 40 (.int 40 772) (.int 120 691)), (.mk 41 (.int 41 774) (.int 120 691)), (.mk 42 (.int 42 776) (.int 120 691)), (.mk 43 (.int 43 778) (.int 120 691)), (.mk 44 (.int 44 780) (.int 120 691)), (.mk 45 (.int 45 782) (.int 120 691)), (.mk 46 (.int 46 784) (.int 120 691)), (.mk 47 (.int 47 786) (.int 120 691)), (.mk 48 (.int 48 788) (.int 120 691)), (.mk 49 (.int 49 790) (.int 120 691)), (.mk 50 (.int 50 792) (.int 120 691)), (.mk 51 (.int 51 794) (.int 120 691)), (.mk 52 (.int 52 796) (.int 120 691)), (.mk 53 (.int 53 798) (.int 120 691)), (.mk 54 (.int 54 800) (.int 120 691)), (.mk 55 (.int 55 802) (.int 120 691)), (.mk 56 (.int 56 804) (.int 120 691)), (.mk 57 (.int 57 806) (.int 120 691)), (.mk 58 (.int 58 808) (.int 120 691)), (.mk 59 (.int 59 810) (.int 120 691)), (.mk 60 (.int 60 812) (.int 120 691)), (.mk 61 (.int 61 814) (.int 120 691)), (.mk 62 (.int 62 816) (.int 120 691)), (.mk 63 (.int 63 818) (.int 120 691)), (.mk 64 (.int 64 820) (.int 120 691)), (.mk 65 (.int 65 822) (.int 120 691)), (.mk 66 (.int 66 824) (.int 120 691)), (.mk 67 (.int 67 826) (.int 120 691)), (.mk 68 (.int 68 828) (.int 120 691)), (.mk 69 (.int 69 830) (.int 120 691)), (.mk 70 (.int 70 832) (.int 120 691)), (.mk 71 (.int 71 834) (.int 120 691)), (.mk 72 (.int 72 836) (.int 120 691)), (.mk 73 (.int 73 838) (.int 120 691)), (.mk 74 (.int 74 840) (.int 120 691)), (.mk 75 (.int 75 842) (.int 120 691)), (.mk 76 (.int 76 844) (.int 120 691)), (.mk 77 (.int 77 846) (.int 120 691)), (.mk 78 (.int 78 848) (.int 120 691)), (.mk 79 (.int 79 850) (.int 120 691)), (.mk 80 (.int 80 852) (.int 120 691)), (.mk 81 (.int 81 854) (.int 120 691)), (.mk 82 (.int 82 856) (.int 120 691)), (.mk 83 (.int 83 858) (.int 120 691)), (.mk 84 (.int 84 860) (.int 120 691)), (.mk 85 (.int 85 862) (.int 120 691)), (.mk 86 (.int 86 864) (.int 120 691)), (.mk 87 (.int 87 866) (.int 120 691)), (.mk 88 (.int 88 868) (.int 120 691)), (.mk 89 (.int 89 870) (.int 120 691)), (.mk 90 (.int 90 872) (.int 120 691)), (.mk 91 (.int 91 874) (.int 120 691)), (.mk 92 (.int 92 876) (.int 120 691)), (.mk 93 (.int 93 878) (.int 120 691)), (.mk 94 (.int 94 880) (.int 120 691)), (.mk 95 (.int 95 882) (.int 120 691)), (.mk 96 (.int 96 884) (.int 120 691)), (.mk 97 (.int 97 886) (.int 120 691)), (.mk 98 (.int 98 888) (.int 120 691)), (.mk 99 (.int 99 890) (.int 120 691)), (.mk 100 (.int 100 892) (.int 120 691)), (.mk 101 (.int 101 894) (.int 120 691)), (.mk 102 (.int 102 896) (.int 120 691)), (.mk 103 (.int 103 898) (.int 120 691)), (.mk 104 (.int 104 900) (.int 120 691)), (.mk 105 (.int 105 902) (.int 120 691)), (.mk 106 (.int 106 904) (.int 120 691)), (.mk 107 (.int 107 906) (.int 120 691)), (.mk 108 (.int 108 908) (.int 120 691)), (.mk 109 (.int 109 910) (.int 120 691)), (.mk 110 (.int 110 912) (.int 120 691)), (.mk 111 (.int 111 914) (.int 120 691)), (.mk 112 (.int 112 916) (.int 120 691)), (.mk 113 (.int 113 918) (.int 120 691)), (.mk 114 (.int 114 920) (.int 120 691)), (.mk 115 (.int 115 922) (.int 120 691)), (.mk 116 (.int 116 924) (.int 120 691)), (.mk 117 (.int 117 926) (.int 120 691)), (.mk 118 (.int 118 928) (.int 120 691)), (.mk 119 (.int 119 930) (.int 120 691)), (.mk 120 (.int 120 932) (.int 120 691)), (.mk 121 (.int 121 934) (.int 120 691)), (.mk 122 (.int 122 936) (.int 120 691)), (.mk 123 (.int 123 938) (.int 120 691)), (.mk 124 (.int 124 940) (.int 120 691)), (.mk 125 (.int 125 942) (.int 120 691)), (.mk 126 (.int 126 944) (.int 120 691)), (.mk 127 (.int 127 946) (.int 120 691))] 128) #[])
noncomputable def hG10x128_86 (P : Params) : Obj := (.mk (.type "range_iterator") none (.fields #[.int 128 0, .int 0 0, .int 1 0]) #[])
noncomputable def treeG10x128 (P : Params) : BT := (.node (h0_0 P) (.node (h0_1 P) (.node (hG6_3 P) (.node (h0_7 P) (.node (h0_15 P) (.node (hp_31 P) (.node (hG6_63 P) .nil .nil) .nil) (.node (hG0_47 P) (.node (hG6_79 P) .nil .nil) .nil)) (.node (h0_23 P) (.node (hG0_39 P) (.node (hG6_71 P) .nil .nil) .nil) (.node (hG5_55 P) .nil .nil))) (.node (h0_11 P) (.node (h0_19 P) (.node (hG0_35 P) (.node (hG6_67 P) .nil .nil) .nil) (.node (hG4_51 P) (.node (hG10x0_83 P) .nil .nil) .nil)) (.node (h0_27 P) (.node (hG0_43 P) (.node (hG6_75 P) .nil .nil) .nil) (.node (hG6_59 P) .nil .nil)))) (.node (h0_5 P) (.node (h0_9 P) (.node (h0_17 P) (.node (hG0_33 P) (.node (hG6_65 P) .nil .nil) .nil) (.node (hG4_49 P) (.node (hG6_81 P) .nil .nil) .nil)) (.node (h0_25 P) (.node (hG0_41 P) (.node (hG6_73 P) .nil .nil) .nil) (.node (hG5_57 P) .nil .nil))) (.node (h0_13 P) (.node (h0_21 P) (.node (hG0_37 P) (.node (hG6_69 P) .nil .nil) .nil) (.node (hG4_53 P) (.node (hG10x128_85 P) .nil .nil) .nil)) (.node (hG6_29 P) (.node (hG0_45 P) (.node (hG6_77 P) .nil .nil) .nil) (.node (hG6_61 P) .nil .nil))))) (.node (h0_2 P) (.node (h0_4 P) (.node (h0_8 P) (.node (h0_16 P) (.node (hG0_32 P) (.node (hG6_64 P) .nil .nil) .nil) (.node (hG0_48 P) (.node (hG6_80 P) .nil .nil) .nil)) (.node (h0_24 P) (.node (hG0_40 P) (.node (hG6_72 P) .nil .nil) .nil) (.node (hG5_56 P) .nil .nil))) (.node (h0_12 P) (.node (h0_20 P) (.node (hG0_36 P) (.node (hG6_68 P) .nil .nil) .nil) (.node (hG4_52 P) (.node (hG10x0_84 P) .nil .nil) .nil)) (.node (hp_28 P) (.node (hG0_44 P) (.node (hG6_76 P) .nil .nil) .nil) (.node (hG6_60 P) .nil .nil)))) (.node (h0_6 P) (.node (h0_10 P) (.node (h0_18 P) (.node (hG0_34 P) (.node (hG6_66 P) .nil .nil) .nil) (.node (hG4_50 P) (.node (hG10x0_82 P) .nil .nil) .nil)) (.node (h0_26 P) (.node (hG0_42 P) (.node (hG6_74 P) .nil .nil) .nil) (.node (hG6_58 P) .nil .nil))) (.node (h0_14 P) (.node (h0_22 P) (.node (hG0_38 P) (.node (hG6_70 P) .nil .nil) .nil) (.node (hG5_54 P) (.node (hG10x128_86 P) .nil .nil) .nil)) (.node (hp_30 P) (.node (hG0_46 P) (.node (hG6_78 P) .nil .nil) .nil) (.node (hG6_62 P) .nil .nil))))))
noncomputable def h_G10x128_q (w : World) (os : OsState) : Prop := ∀ k : Result → Sem Fin, segGoT treeTable p9 w 28 ann9 1 640 (SharedT.mk (treeG10x112 w.params) 87 (@PySem.Life.mk [] [] [] 0 [] [] @Bool.false (@List.toArray @Nat []) [] 0 @Bool.false @Bool.false @Bool.false (0 : Int) [(2000 : Int), (10 : Int), (10 : Int)] @Bool.false 0 @Bool.true [] [] 0 @Bool.false) (Array.mk []) (@PySem.Drawn.mk 0 0 0 0) 916 os) (Thread.mk (denote treeTable (Code.builtin "dict.fromkeys.loop" (Args.mk [(@PySem.Value.ref 85), (@PySem.Value.ref 86), (@PySem.Value.int (120 : Int) 691)] []))) (Code.builtin "dict.fromkeys.loop" (Args.mk [(@PySem.Value.ref 85), (@PySem.Value.ref 86), (@PySem.Value.int (120 : Int) 691)] [])) (@PySem.Pos.mk 17 8 17 42) [Frame.ret k none false [] c9 (@PySem.Pos.mk 17 8 17 42) [(@PySem.Value.ref 82), (@PySem.Value.ref 83), (@PySem.Value.int (120 : Int) 691)], topFrame (@PySem.Pos.mk 0 0 0 0)]) = some ((SharedT.mk (treeG10x128 w.params) 87 (@PySem.Life.mk [] [] [] 0 [] [] @Bool.false (@List.toArray @Nat []) [] 0 @Bool.false @Bool.false @Bool.false (0 : Int) [(2000 : Int), (10 : Int), (10 : Int)] @Bool.false 0 @Bool.true [] [] 0 @Bool.false) (Array.mk []) (@PySem.Drawn.mk 0 0 0 0) 948 os), (Thread.mk (denote treeTable (Code.builtin "dict.fromkeys.loop" (Args.mk [(@PySem.Value.ref 85), (@PySem.Value.ref 86), (@PySem.Value.int (120 : Int) 691)] []))) (Code.builtin "dict.fromkeys.loop" (Args.mk [(@PySem.Value.ref 85), (@PySem.Value.ref 86), (@PySem.Value.int (120 : Int) 691)] [])) (@PySem.Pos.mk 17 8 17 42) [Frame.ret k none false [] c9 (@PySem.Pos.mk 17 8 17 42) [(@PySem.Value.ref 82), (@PySem.Value.ref 83), (@PySem.Value.int (120 : Int) 691)], topFrame (@PySem.Pos.mk 0 0 0 0)]))
theorem h_G10x128_f (w : World) (os : OsState) : h_G10x128_q (w.withFollow "special-get-raises" false) os := by
  unfold h_G10x128_q
  intro k
  (rw [show @PySem.W.segGoT = _ from PySem.W.Fast.te10295753902157049106, show @PySem.denote = _ from PySem.W.Fast.te11892475500146522536, show treeTable = _ from PySem.W.Fast.te14364793385576792824]; kernel_rfl)
theorem h_G10x128_t (w : World) (os : OsState) : h_G10x128_q (w.withFollow "special-get-raises" true) os := by
  unfold h_G10x128_q
  intro k
  (rw [show @PySem.W.segGoT = _ from PySem.W.Fast.te10295753902157049106, show @PySem.denote = _ from PySem.W.Fast.te11892475500146522536, show treeTable = _ from PySem.W.Fast.te14364793385576792824]; kernel_rfl)
theorem h_G10x128 (w : World) (os : OsState) : ∀ k : Result → Sem Fin, segGoT treeTable p9 w 28 ann9 1 640 (SharedT.mk (treeG10x112 w.params) 87 (@PySem.Life.mk [] [] [] 0 [] [] @Bool.false (@List.toArray @Nat []) [] 0 @Bool.false @Bool.false @Bool.false (0 : Int) [(2000 : Int), (10 : Int), (10 : Int)] @Bool.false 0 @Bool.true [] [] 0 @Bool.false) (Array.mk []) (@PySem.Drawn.mk 0 0 0 0) 916 os) (Thread.mk (denote treeTable (Code.builtin "dict.fromkeys.loop" (Args.mk [(@PySem.Value.ref 85), (@PySem.Value.ref 86), (@PySem.Value.int (120 : Int) 691)] []))) (Code.builtin "dict.fromkeys.loop" (Args.mk [(@PySem.Value.ref 85), (@PySem.Value.ref 86), (@PySem.Value.int (120 : Int) 691)] [])) (@PySem.Pos.mk 17 8 17 42) [Frame.ret k none false [] c9 (@PySem.Pos.mk 17 8 17 42) [(@PySem.Value.ref 82), (@PySem.Value.ref 83), (@PySem.Value.int (120 : Int) 691)], topFrame (@PySem.Pos.mk 0 0 0 0)]) = some ((SharedT.mk (treeG10x128 w.params) 87 (@PySem.Life.mk [] [] [] 0 [] [] @Bool.false (@List.toArray @Nat []) [] 0 @Bool.false @Bool.false @Bool.false (0 : Int) [(2000 : Int), (10 : Int), (10 : Int)] @Bool.false 0 @Bool.true [] [] 0 @Bool.false) (Array.mk []) (@PySem.Drawn.mk 0 0 0 0) 948 os), (Thread.mk (denote treeTable (Code.builtin "dict.fromkeys.loop" (Args.mk [(@PySem.Value.ref 85), (@PySem.Value.ref 86), (@PySem.Value.int (120 : Int) 691)] []))) (Code.builtin "dict.fromkeys.loop" (Args.mk [(@PySem.Value.ref 85), (@PySem.Value.ref 86), (@PySem.Value.int (120 : Int) 691)] [])) (@PySem.Pos.mk 17 8 17 42) [Frame.ret k none false [] c9 (@PySem.Pos.mk 17 8 17 42) [(@PySem.Value.ref 82), (@PySem.Value.ref 83), (@PySem.Value.int (120 : Int) 691)], topFrame (@PySem.Pos.mk 0 0 0 0)])) := byRow2 "special-get-raises" (P := fun w => ∀ os, h_G10x128_q w os) h_G10x128_f h_G10x128_t w os
noncomputable def hG10_3 (P : Params) : Obj := (.mk (.type "dict") none (.dict #[(.mk (PyData.keyHash P "__name__") (.str "__name__" 165) (.str "cpy313.idlelib.pyparse" 289)), (.mk (PyData.keyHash P "__doc__") (.str "__doc__" 166) .none), (.mk (PyData.keyHash P "__package__") (.str "__package__" 167) .none), (.mk (PyData.keyHash P "__loader__") (.str "__loader__" 168) (.builtin "__main__.__loader__#opaque")), (.mk (PyData.keyHash P "__spec__") (.str "__spec__" 169) .none), (.mk (PyData.keyHash P "__annotations__") (.str "__annotations__" 170) (.ref 6)), (.mk (PyData.keyHash P "__builtins__") (.str "__builtins__" 171) (.ref 4)), (.mk (PyData.keyHash P "__file__") (.str "__file__" 173) (.str "/claim/cut.py" 172)), (.mk (PyData.keyHash P "__cached__") (.str "__cached__" 174) .none), (.mk (PyData.keyHash P "_sre") (.str "_sre" 275) (.ref 12)), (.mk (PyData.keyHash P "_wall") (.str "_wall" 288) (.ref 38)), (.mk (PyData.keyHash P "_twin_re_2") (.str "_twin_re_2" 334) (.ref 43)), (.mk (PyData.keyHash P "_twin_re_3") (.str "_twin_re_3" 609) (.ref 48)), (.mk (PyData.keyHash P "_twin_re_6") (.str "_twin_re_6" 639) (.ref 53)), (.mk (PyData.keyHash P "C_NONE") (.str "C_NONE" 648) (.int 0 643)), (.mk (PyData.keyHash P "C_BACKSLASH") (.str "C_BACKSLASH" 649) (.int 1 644)), (.mk (PyData.keyHash P "C_STRING_FIRST_LINE") (.str "C_STRING_FIRST_LINE" 650) (.int 2 645)), (.mk (PyData.keyHash P "C_STRING_NEXT_LINES") (.str "C_STRING_NEXT_LINES" 651) (.int 3 646)), (.mk (PyData.keyHash P "C_BRACKET") (.str "C_BRACKET" 652) (.int 4 647)), (.mk (PyData.keyHash P "_junkre") (.str "_junkre" 654) (.ref 58)), (.mk (PyData.keyHash P "_match_stringre") (.str "_match_stringre" 656) (.ref 59)), (.mk (PyData.keyHash P "_chew_ordinaryre") (.str "_chew_ordinaryre" 658) (.ref 60)), (.mk (PyData.keyHash P "ParseMap") (.str "ParseMap" 686) (.ref 77)), (.mk (PyData.keyHash P "trans") (.str "trans" 948) (.ref 85))] 24) #[])
noncomputable def hG10_87 (P : Params) : Obj := (.mk (.type "tuple") none (.seq #[] 0) #[])
noncomputable def hG10_88 (P : Params) : Obj := (.mk (.type "StopIteration") none (.fields #[.ref 87, .none, .none, .none, .bool false, .none]) #[])
noncomputable def treeG10 (P : Params) : BT := (.node (h0_0 P) (.node (h0_1 P) (.node (hG10_3 P) (.node (h0_7 P) (.node (h0_15 P) (.node (hp_31 P) (.node (hG6_63 P) .nil .nil) .nil) (.node (hG0_47 P) (.node (hG6_79 P) .nil .nil) .nil)) (.node (h0_23 P) (.node (hG0_39 P) (.node (hG6_71 P) .nil .nil) .nil) (.node (hG5_55 P) (.node (hG10_87 P) .nil .nil) .nil))) (.node (h0_11 P) (.node (h0_19 P) (.node (hG0_35 P) (.node (hG6_67 P) .nil .nil) .nil) (.node (hG4_51 P) (.node (hG10x0_83 P) .nil .nil) .nil)) (.node (h0_27 P) (.node (hG0_43 P) (.node (hG6_75 P) .nil .nil) .nil) (.node (hG6_59 P) .nil .nil)))) (.node (h0_5 P) (.node (h0_9 P) (.node (h0_17 P) (.node (hG0_33 P) (.node (hG6_65 P) .nil .nil) .nil) (.node (hG4_49 P) (.node (hG6_81 P) .nil .nil) .nil)) (.node (h0_25 P) (.node (hG0_41 P) (.node (hG6_73 P) .nil .nil) .nil) (.node (hG5_57 P) .nil .nil))) (.node (h0_13 P) (.node (h0_21 P) (.node (hG0_37 P) (.node (hG6_69 P) .nil .nil) .nil) (.node (hG4_53 P) (.node (hG10x128_85 P) .nil .nil) .nil)) (.node (hG6_29 P) (.node (hG0_45 P) (.node (hG6_77 P) .nil .nil) .nil) (.node (hG6_61 P) .nil .nil))))) (.node (h0_2 P) (.node (h0_4 P) (.node (h0_8 P) (.node (h0_16 P) (.node (hG0_32 P) (.node (hG6_64 P) .nil .nil) .nil) (.node (hG0_48 P) (.node (hG6_80 P) .nil .nil) .nil)) (.node (h0_24 P) (.node (hG0_40 P) (.node (hG6_72 P) .nil .nil) .nil) (.node (hG5_56 P) (.node (hG10_88 P) .nil .nil) .nil))) (.node (h0_12 P) (.node (h0_20 P) (.node (hG0_36 P) (.node (hG6_68 P) .nil .nil) .nil) (.node (hG4_52 P) (.node (hG10x0_84 P) .nil .nil) .nil)) (.node (hp_28 P) (.node (hG0_44 P) (.node (hG6_76 P) .nil .nil) .nil) (.node (hG6_60 P) .nil .nil)))) (.node (h0_6 P) (.node (h0_10 P) (.node (h0_18 P) (.node (hG0_34 P) (.node (hG6_66 P) .nil .nil) .nil) (.node (hG4_50 P) (.node (hG10x0_82 P) .nil .nil) .nil)) (.node (h0_26 P) (.node (hG0_42 P) (.node (hG6_74 P) .nil .nil) .nil) (.node (hG6_58 P) .nil .nil))) (.node (h0_14 P) (.node (h0_22 P) (.node (hG0_38 P) (.node (hG6_70 P) .nil .nil) .nil) (.node (hG5_54 P) (.node (hG10x128_86 P) .nil .nil) .nil)) (.node (hp_30 P) (.node (hG0_46 P) (.node (hG6_78 P) .nil .nil) .nil) (.node (hG6_62 P) .nil .nil))))))
noncomputable def h_G10_q (w : World) (os : OsState) : Prop := segRunT treeTable p9 w 28 ann9 1 23 (SharedT.mk (treeG10x128 w.params) 87 (@PySem.Life.mk [] [] [] 0 [] [] @Bool.false (@List.toArray @Nat []) [] 0 @Bool.false @Bool.false @Bool.false (0 : Int) [(2000 : Int), (10 : Int), (10 : Int)] @Bool.false 0 @Bool.true [] [] 0 @Bool.false) (Array.mk []) (@PySem.Drawn.mk 0 0 0 0) 948 os) (Thread.mk (denote treeTable (Code.builtin "dict.fromkeys.loop" (Args.mk [(@PySem.Value.ref 85), (@PySem.Value.ref 86), (@PySem.Value.int (120 : Int) 691)] []))) (Code.builtin "dict.fromkeys.loop" (Args.mk [(@PySem.Value.ref 85), (@PySem.Value.ref 86), (@PySem.Value.int (120 : Int) 691)] [])) (@PySem.Pos.mk 17 8 17 42) [Frame.ret (stk w os) none false [] c9 (@PySem.Pos.mk 17 8 17 42) [(@PySem.Value.ref 82), (@PySem.Value.ref 83), (@PySem.Value.int (120 : Int) 691)], topFrame (@PySem.Pos.mk 0 0 0 0)]) = some (Flow.next, (SharedT.mk (treeG10 w.params) 89 (@PySem.Life.mk [] [] [] 0 [] [] @Bool.false (@List.toArray @Nat []) [] 0 @Bool.false @Bool.false @Bool.false (0 : Int) [(2000 : Int), (10 : Int), (10 : Int)] @Bool.false 0 @Bool.true [] [] 0 @Bool.false) (Array.mk []) (@PySem.Drawn.mk 0 0 0 0) 949 os), c9, (@PySem.Pos.mk 17 0 17 5))
theorem h_G10_f (w : World) (os : OsState) : h_G10_q (w.withFollow "special-get-raises" false) os := by
  unfold h_G10_q
  (rw [show @PySem.W.segRunT = _ from PySem.W.Fast.te10110043849684766642, show @PySem.denote = _ from PySem.W.Fast.te11892475500146522536, show treeTable = _ from PySem.W.Fast.te14364793385576792824]; kernel_rfl)
theorem h_G10_t (w : World) (os : OsState) : h_G10_q (w.withFollow "special-get-raises" true) os := by
  unfold h_G10_q
  (rw [show @PySem.W.segRunT = _ from PySem.W.Fast.te10110043849684766642, show @PySem.denote = _ from PySem.W.Fast.te11892475500146522536, show treeTable = _ from PySem.W.Fast.te14364793385576792824]; kernel_rfl)
theorem h_G10 (w : World) (os : OsState) : segRunT treeTable p9 w 28 ann9 1 23 (SharedT.mk (treeG10x128 w.params) 87 (@PySem.Life.mk [] [] [] 0 [] [] @Bool.false (@List.toArray @Nat []) [] 0 @Bool.false @Bool.false @Bool.false (0 : Int) [(2000 : Int), (10 : Int), (10 : Int)] @Bool.false 0 @Bool.true [] [] 0 @Bool.false) (Array.mk []) (@PySem.Drawn.mk 0 0 0 0) 948 os) (Thread.mk (denote treeTable (Code.builtin "dict.fromkeys.loop" (Args.mk [(@PySem.Value.ref 85), (@PySem.Value.ref 86), (@PySem.Value.int (120 : Int) 691)] []))) (Code.builtin "dict.fromkeys.loop" (Args.mk [(@PySem.Value.ref 85), (@PySem.Value.ref 86), (@PySem.Value.int (120 : Int) 691)] [])) (@PySem.Pos.mk 17 8 17 42) [Frame.ret (stk w os) none false [] c9 (@PySem.Pos.mk 17 8 17 42) [(@PySem.Value.ref 82), (@PySem.Value.ref 83), (@PySem.Value.int (120 : Int) 691)], topFrame (@PySem.Pos.mk 0 0 0 0)]) = some (Flow.next, (SharedT.mk (treeG10 w.params) 89 (@PySem.Life.mk [] [] [] 0 [] [] @Bool.false (@List.toArray @Nat []) [] 0 @Bool.false @Bool.false @Bool.false (0 : Int) [(2000 : Int), (10 : Int), (10 : Int)] @Bool.false 0 @Bool.true [] [] 0 @Bool.false) (Array.mk []) (@PySem.Drawn.mk 0 0 0 0) 949 os), c9, (@PySem.Pos.mk 17 0 17 5)) := byRow2 "special-get-raises" (P := fun w => ∀ os, h_G10_q w os) h_G10_f h_G10_t w os
noncomputable def hG11_29 (P : Params) : Obj := (.mk .none none (.fields #[.int 2 0, .int 0 0, .ref 37, .int 13 0, .int 0 0, .ref 66, .int 18 0, .int 13 0, .ref 92]) #[])
noncomputable def hG11_85 (P : Params) : Obj := (.mk (.ref 77) (some 84) (.dict #[(.mk 0 (.int 0 692) (.int 120 691)), (.mk 1 (.int 1 694) (.int 120 691)), (.mk 2 (.int 2 696) (.int 120 691)), (.mk 3 (.int 3 698) (.int 120 691)), (.mk 4 (.int 4 700) (.int 120 691)), (.mk 5 (.int 5 702) (.int 120 691)), (.mk 6 (.int 6 704) (.int 120 691)), (.mk 7 (.int 7 706) (.int 120 691)), (.mk 8 (.int 8 708) (.int 120 691)), (.mk 9 (.int 9 710) (.int 120 691)), (.mk 10 (.int 10 712) (.int 120 691)), (.mk 11 (.int 11 714) (.int 120 691)), (.mk 12 (.int 12 716) (.int 120 691)), (.mk 13 (.int 13 718) (.int 120 691)), (.mk 14 (.int 14 720) (.int 120 691)), (.mk 15 (.int 15 722) (.int 120 691)), (.mk 16 (.int 16 724) (.int 120 691)), (.mk 17 (.int 17 726) (.int 120 691)), (.mk 18 (.int 18 728) (.int 120 691)), (.mk 19 (.int 19 730) (.int 120 691)), (.mk 20 (.int 20 732) (.int 120 691)), (.mk 21 (.int 21 734) (.int 120 691)), (.mk 22 (.int 22 736) (.int 120 691)), (.mk 23 (.int 23 738) (.int 120 691)), (.mk 24 (.int 24 740) (.int 120 691)), (.mk 25 (.int 25 742) (.int 120 691)), (.mk 26 (.int 26 744) (.int 120 691)), (.mk 27 (.int 27 746) (.int 120 691)), (.mk 28 (.int 28 748) (.int 120 691)), (.mk 29 (.int 29 750) (.int 120 691)), (.mk 30 (.int 30 752) (.int 120 691)), (.mk 31 (.int 31 754) (.int 120 691)), (.mk 32 (.int 32 756) (.int 120 691)), (.mk 33 (.int 33 758) (.int 120 691)), (.mk 34 (.int 34 760) (.int 120 691)), (.mk 35 (.int 35 762) (.int 120 691)), (.mk 36 (.int 36 764) (.int 120 691)), (.mk 37 (.int 37 766) (.int 120 691)), (.mk 38 (.int 38 768) (.int 120 691)), (.mk 39 (.int 39 770) (.int 120 691)), (.mk 40 (.int 40 772) (.int 40 965)), (.mk 41 (.int 41 774) (.int 120 691)), (.mk 42 (.int 42 776) (.int 120 691)), (.mk 43 (.int 43 778) (.int 120 691)), (.mk 44 (.int 44 780) (.int 120 691)), (.mk 45 (.int 45 782) (.int 120 691)), (.mk 46 (.int 46 784) (.int 120 691)), (.mk 47 (.int 47 786) (.int 120 691)), (.mk 48 (.int 48 788) (.int 120 691)), (.mk 49 (.int 49 790) (.int 120 691)), (.mk 50 (.int 50 792) (.int 120 691)), (.mk 51 (.int 51 794) (.int 120 691)), (.mk 52 (.int 52 796) (.int 120 691)), (.mk 53 (.int 53 798) (.int 120 691)), (.mk 54 (.int 54 800) (.int 120 691)), (.mk 55 (.int 55 802) (.int 120 691)), (.mk 56 (.int 56 804) (.int 120 691)), (.mk 57 (.int 57 806) (.int 120 691)), (.mk 58 (.int 58 808) (.int 120 691)), (.mk 59 (.int 59 810) (.int 120 691)), (.mk 60 (.int 60 812) (.int 120 691)), (.mk 61 (.int 61 814) (.int 120 691)), (.mk 62 (.int 62 816) (.int 120 691)), (.mk 63 (.int 63 818) (.int 120 691)), (.mk 64 (.int 64 820) (.int 120 691)), (.mk 65 (.int 65 822) (.int 120 691)), (.mk 66 (.int 66 824) (.int 120 691)), (.mk 67 (.int 67 826) (.int 120 691)), (.mk 68 (.int 68 828) (.int 120 691)), (.mk 69 (.int 69 830) (.int 120 691)), (.mk 70 (.int 70 832) (.int 120 691)), (.mk 71 (.int 71 834) (.int 120 691)), (.mk 72 (.int 72 836) (.int 120 691)), (.mk 73 (.int 73 838) (.int 120 691)), (.mk 74 (.int 74 840) (.int 120 691)), (.mk 75 (.int 75 842) (.int 120 691)), (.mk 76 (.int 76 844) (.int 120 691)), (.mk 77 (.int 77 846) (.int 120 691)), (.mk 78 (.int 78 848) (.int 120 691)), (.mk 79 (.int 79 850) (.int 120 691)), (.mk 80 (.int 80 852) (.int 120 691)), (.mk 81 (.int 81 854) (.int 120 691)), (.mk 82 (.int 82 856) (.int 120 691)), (.mk 83 (.int 83 858) (.int 120 691)), (.mk 84 (.int 84 860) (.int 120 691)), (.mk 85 (.int 85 862) (.int 120 691)), (.mk 86 (.int 86 864) (.int 120 691)), (.mk 87 (.int 87 866) (.int 120 691)), (.mk 88 (.int 88 868) (.int 120 691)), (.mk 89 (.int 89 870) (.int 120 691)), (.mk 90 (.int 90 872) (.int 120 691)), (.mk 91 (.int 91 874) (.int 40 977)), (.mk 92 (.int 92 876) (.int 120 691)), (.mk 93 (.int 93 878) (.int 120 691)), (.mk 94 (.int 94 880) (.int 120 691)), (.mk 95 (.int 95 882) (.int 120 691)), (.mk 96 (.int 96 884) (.int 120 691)), (.mk 97 (.int 97 886) (.int 120 691)), (.mk 98 (.int 98 888) (.int 120 691)), (.mk 99 (.int 99 890) (.int 120 691)), (.mk 100 (.int 100 892) (.int 120 691)), (.mk 101 (.int 101 894) (.int 120 691)), (.mk 102 (.int 102 896) (.int 120 691)), (.mk 103 (.int 103 898) (.int 120 691)), (.mk 104 (.int 104 900) (.int 120 691)), (.mk 105 (.int 105 902) (.int 120 691)), (.mk 106 (.int 106 904) (.int 120 691)), (.mk 107 (.int 107 906) (.int 120 691)), (.mk 108 (.int 108 908) (.int 120 691)), (.mk 109 (.int 109 910) (.int 120 691)), (.mk 110 (.int 110 912) (.int 120 691)), (.mk 111 (.int 111 914) (.int 120 691)), (.mk 112 (.int 112 916) (.int 120 691)), (.mk 113 (.int 113 918) (.int 120 691)), (.mk 114 (.int 114 920) (.int 120 691)), (.mk 115 (.int 115 922) (.int 120 691)), (.mk 116 (.int 116 924) (.int 120 691)), (.mk 117 (.int 117 926) (.int 120 691)), (.mk 118 (.int 118 928) (.int 120 691)), (.mk 119 (.int 119 930) (.int 120 691)), (.mk 120 (.int 120 932) (.int 120 691)), (.mk 121 (.int 121 934) (.int 120 691)), (.mk 122 (.int 122 936) (.int 120 691)), (.mk 123 (.int 123 938) (.int 40 971)), (.mk 124 (.int 124 940) (.int 120 691)), (.mk 125 (.int 125 942) (.int 120 691)), (.mk 126 (.int 126 944) (.int 120 691)), (.mk 127 (.int 127 946) (.int 120 691))] 128) #[])
noncomputable def hG11_89 (P : Params) : Obj := (.mk (.type "str_ascii_iterator") none (.fields #[.none, .int 3 0]) #[])
noncomputable def hG11_90 (P : Params) : Obj := (.mk (.type "tuple") none (.seq #[] 0) #[])
noncomputable def hG11_91 (P : Params) : Obj := (.mk .none none (.fields #[]) #[])
noncomputable def hG11_92 (P : Params) : Obj := (.mk (.type "code") none (.fields #[(.str "<genexpr>" 950), (.str "<genexpr>" 951), (.str "/claim/cut.py" 952), .int 18 0, .int 1 0, .int 0 0, .int 0 0, .int 35 0, .ref 90, .bool true, .int 276 0, .ref 91, .none, .none, .none, .none, .int 953 0, .int 18 0, (.str "/claim/cut.py" 954)]) #[])
noncomputable def hG11_93 (P : Params) : Obj := (.mk (.type "frame") none (.dict #[(.mk (PyData.keyHash P ".0") (.str ".0" 955) (.ref 89)), (.mk (PyData.keyHash P "c") (.str "c" 962) (.str "[" 973))] 2) #[])
noncomputable def hG11_94 (P : Params) : Obj := (.mk (.type "generator") none (.fields #[.int 0 0, (.str "<genexpr>" 956), (.str "<genexpr>" 957)]) #[])
noncomputable def hG11_95 (P : Params) : Obj := (.mk (.type "tuple") none (.seq #[(.str "'generator' object has no attribute 'keys'" 959)] 0) #[])
noncomputable def hG11_96 (P : Params) : Obj := (.mk (.type "AttributeError") none (.fields #[.ref 95, .none, .none, .none, .bool false, .none, (.str "keys" 960), .ref 94]) #[])
noncomputable def hG11_97 (P : Params) : Obj := (.mk (.type "tuple") none (.seq #[.int 40 963, .int 40 965] 0) #[])
noncomputable def hG11_98 (P : Params) : Obj := (.mk (.type "tuple") none (.seq #[.int 123 969, .int 40 971] 0) #[])
noncomputable def hG11_99 (P : Params) : Obj := (.mk (.type "tuple") none (.seq #[.int 91 975, .int 40 977] 0) #[])
noncomputable def hG11_100 (P : Params) : Obj := (.mk (.type "tuple") none (.seq #[] 0) #[])
noncomputable def hG11_101 (P : Params) : Obj := (.mk (.type "StopIteration") none (.fields #[.ref 100, .none, .none, .none, .bool false, .none]) #[])
noncomputable def hG11_102 (P : Params) : Obj := (.mk (.type "tuple") none (.seq #[] 0) #[])
noncomputable def hG11_103 (P : Params) : Obj := (.mk (.type "StopIteration") none (.fields #[.ref 102, .none, .none, .none, .bool false, .none]) #[])
noncomputable def treeG11 (P : Params) : BT := (.node (h0_0 P) (.node (h0_1 P) (.node (hG10_3 P) (.node (h0_7 P) (.node (h0_15 P) (.node (hp_31 P) (.node (hG6_63 P) .nil .nil) (.node (hG11_95 P) .nil .nil)) (.node (hG0_47 P) (.node (hG6_79 P) .nil .nil) .nil)) (.node (h0_23 P) (.node (hG0_39 P) (.node (hG6_71 P) .nil .nil) (.node (hG11_103 P) .nil .nil)) (.node (hG5_55 P) (.node (hG10_87 P) .nil .nil) .nil))) (.node (h0_11 P) (.node (h0_19 P) (.node (hG0_35 P) (.node (hG6_67 P) .nil .nil) (.node (hG11_99 P) .nil .nil)) (.node (hG4_51 P) (.node (hG10x0_83 P) .nil .nil) .nil)) (.node (h0_27 P) (.node (hG0_43 P) (.node (hG6_75 P) .nil .nil) .nil) (.node (hG6_59 P) (.node (hG11_91 P) .nil .nil) .nil)))) (.node (h0_5 P) (.node (h0_9 P) (.node (h0_17 P) (.node (hG0_33 P) (.node (hG6_65 P) .nil .nil) (.node (hG11_97 P) .nil .nil)) (.node (hG4_49 P) (.node (hG6_81 P) .nil .nil) .nil)) (.node (h0_25 P) (.node (hG0_41 P) (.node (hG6_73 P) .nil .nil) .nil) (.node (hG5_57 P) (.node (hG11_89 P) .nil .nil) .nil))) (.node (h0_13 P) (.node (h0_21 P) (.node (hG0_37 P) (.node (hG6_69 P) .nil .nil) (.node (hG11_101 P) .nil .nil)) (.node (hG4_53 P) (.node (hG11_85 P) .nil .nil) .nil)) (.node (hG11_29 P) (.node (hG0_45 P) (.node (hG6_77 P) .nil .nil) .nil) (.node (hG6_61 P) (.node (hG11_93 P) .nil .nil) .nil))))) (.node (h0_2 P) (.node (h0_4 P) (.node (h0_8 P) (.node (h0_16 P) (.node (hG0_32 P) (.node (hG6_64 P) .nil .nil) (.node (hG11_96 P) .nil .nil)) (.node (hG0_48 P) (.node (hG6_80 P) .nil .nil) .nil)) (.node (h0_24 P) (.node (hG0_40 P) (.node (hG6_72 P) .nil .nil) .nil) (.node (hG5_56 P) (.node (hG10_88 P) .nil .nil) .nil))) (.node (h0_12 P) (.node (h0_20 P) (.node (hG0_36 P) (.node (hG6_68 P) .nil .nil) (.node (hG11_100 P) .nil .nil)) (.node (hG4_52 P) (.node (hG10x0_84 P) .nil .nil) .nil)) (.node (hp_28 P) (.node (hG0_44 P) (.node (hG6_76 P) .nil .nil) .nil) (.node (hG6_60 P) (.node (hG11_92 P) .nil .nil) .nil)))) (.node (h0_6 P) (.node (h0_10 P) (.node (h0_18 P) (.node (hG0_34 P) (.node (hG6_66 P) .nil .nil) (.node (hG11_98 P) .nil .nil)) (.node (hG4_50 P) (.node (hG10x0_82 P) .nil .nil) .nil)) (.node (h0_26 P) (.node (hG0_42 P) (.node (hG6_74 P) .nil .nil) .nil) (.node (hG6_58 P) (.node (hG11_90 P) .nil .nil) .nil))) (.node (h0_14 P) (.node (h0_22 P) (.node (hG0_38 P) (.node (hG6_70 P) .nil .nil) (.node (hG11_102 P) .nil .nil)) (.node (hG5_54 P) (.node (hG10x128_86 P) .nil .nil) .nil)) (.node (hp_30 P) (.node (hG0_46 P) (.node (hG6_78 P) .nil .nil) .nil) (.node (hG6_62 P) (.node (hG11_94 P) .nil .nil) .nil))))))
noncomputable def h_G11_q (w : World) (os : OsState) : Prop := segRunT treeTable p9 w 28 ann9 1 367 (SharedT.mk (treeG10 w.params) 89 (@PySem.Life.mk [] [] [] 0 [] [] @Bool.false (@List.toArray @Nat []) [] 0 @Bool.false @Bool.false @Bool.false (0 : Int) [(2000 : Int), (10 : Int), (10 : Int)] @Bool.false 0 @Bool.true [] [] 0 @Bool.false) (Array.mk []) (@PySem.Drawn.mk 0 0 0 0) 949 os) (piecesOf ((b9.drop 11).take 1) e9 c9 (@PySem.Pos.mk 17 0 17 5) B9) = some (Flow.next, (SharedT.mk (treeG11 w.params) 104 (@PySem.Life.mk [] [] [] 0 [] [] @Bool.false (@List.toArray @Nat []) [] 0 @Bool.false @Bool.false @Bool.false (0 : Int) [(2000 : Int), (10 : Int), (10 : Int)] @Bool.false 0 @Bool.true [] [] 0 @Bool.false) (Array.mk [GenState.finished]) (@PySem.Drawn.mk 0 0 0 0) 979 os), c9, (@PySem.Pos.mk 18 0 18 49))
theorem h_G11_ff (w : World) (os : OsState) : h_G11_q ((w.withFollow "special-get-raises" false).withFollow "comprehension-iter-twice" false) os := by
  unfold h_G11_q
  (rw [show @PySem.W.segRunT = _ from PySem.W.Fast.te10110043849684766642, show treeTable = _ from PySem.W.Fast.te14364793385576792824]; kernel_rfl)
theorem h_G11_ft (w : World) (os : OsState) : h_G11_q ((w.withFollow "special-get-raises" true).withFollow "comprehension-iter-twice" false) os := by
  unfold h_G11_q
  (rw [show @PySem.W.segRunT = _ from PySem.W.Fast.te10110043849684766642, show treeTable = _ from PySem.W.Fast.te14364793385576792824]; kernel_rfl)
theorem h_G11_tf (w : World) (os : OsState) : h_G11_q ((w.withFollow "special-get-raises" false).withFollow "comprehension-iter-twice" true) os := by
  unfold h_G11_q
  (rw [show @PySem.W.segRunT = _ from PySem.W.Fast.te10110043849684766642, show treeTable = _ from PySem.W.Fast.te14364793385576792824]; kernel_rfl)
theorem h_G11_tt (w : World) (os : OsState) : h_G11_q ((w.withFollow "special-get-raises" true).withFollow "comprehension-iter-twice" true) os := by
  unfold h_G11_q
  (rw [show @PySem.W.segRunT = _ from PySem.W.Fast.te10110043849684766642, show treeTable = _ from PySem.W.Fast.te14364793385576792824]; kernel_rfl)
theorem h_G11 (w : World) (os : OsState) : segRunT treeTable p9 w 28 ann9 1 367 (SharedT.mk (treeG10 w.params) 89 (@PySem.Life.mk [] [] [] 0 [] [] @Bool.false (@List.toArray @Nat []) [] 0 @Bool.false @Bool.false @Bool.false (0 : Int) [(2000 : Int), (10 : Int), (10 : Int)] @Bool.false 0 @Bool.true [] [] 0 @Bool.false) (Array.mk []) (@PySem.Drawn.mk 0 0 0 0) 949 os) (piecesOf ((b9.drop 11).take 1) e9 c9 (@PySem.Pos.mk 17 0 17 5) B9) = some (Flow.next, (SharedT.mk (treeG11 w.params) 104 (@PySem.Life.mk [] [] [] 0 [] [] @Bool.false (@List.toArray @Nat []) [] 0 @Bool.false @Bool.false @Bool.false (0 : Int) [(2000 : Int), (10 : Int), (10 : Int)] @Bool.false 0 @Bool.true [] [] 0 @Bool.false) (Array.mk [GenState.finished]) (@PySem.Drawn.mk 0 0 0 0) 979 os), c9, (@PySem.Pos.mk 18 0 18 49)) := byRow2 "comprehension-iter-twice" (P := fun w => ∀ os, h_G11_q w os) (byRow2 "special-get-raises" (P := fun w => ∀ os, h_G11_q (w.withFollow "comprehension-iter-twice" false) os) h_G11_ff h_G11_ft) (byRow2 "special-get-raises" (P := fun w => ∀ os, h_G11_q (w.withFollow "comprehension-iter-twice" true) os) h_G11_tf h_G11_tt) w os
noncomputable def hG12_29 (P : Params) : Obj := (.mk .none none (.fields #[.int 2 0, .int 0 0, .ref 37, .int 13 0, .int 0 0, .ref 66, .int 18 0, .int 13 0, .ref 92, .int 19 0, .int 13 0, .ref 107]) #[])
noncomputable def hG12_85 (P : Params) : Obj := (.mk (.ref 77) (some 84) (.dict #[(.mk 0 (.int 0 692) (.int 120 691)), (.mk 1 (.int 1 694) (.int 120 691)), (.mk 2 (.int 2 696) (.int 120 691)), (.mk 3 (.int 3 698) (.int 120 691)), (.mk 4 (.int 4 700) (.int 120 691)), (.mk 5 (.int 5 702) (.int 120 691)), (.mk 6 (.int 6 704) (.int 120 691)), (.mk 7 (.int 7 706) (.int 120 691)), (.mk 8 (.int 8 708) (.int 120 691)), (.mk 9 (.int 9 710) (.int 120 691)), (.mk 10 (.int 10 712) (.int 120 691)), (.mk 11 (.int 11 714) (.int 120 691)), (.mk 12 (.int 12 716) (.int 120 691)), (.mk 13 (.int 13 718) (.int 120 691)), (.mk 14 (.int 14 720) (.int 120 691)), (.mk 15 (.int 15 722) (.int 120 691)), (.mk 16 (.int 16 724) (.int 120 691)), (.mk 17 (.int 17 726) (.int 120 691)), (.mk 18 (.int 18 728) (.int 120 691)), (.mk 19 (.int 19 730) (.int 120 691)), (.mk 20 (.int 20 732) (.int 120 691)), (.mk 21 (.int 21 734) (.int 120 691)), (.mk 22 (.int 22 736) (.int 120 691)), (.mk 23 (.int 23 738) (.int 120 691)), (.mk 24 (.int 24 740) (.int 120 691)), (.mk 25 (.int 25 742) (.int 120 691)), (.mk 26 (.int 26 744) (.int 120 691)), (.mk 27 (.int 27 746) (.int 120 691)), (.mk 28 (.int 28 748) (.int 120 691)), (.mk 29 (.int 29 750) (.int 120 691)), (.mk 30 (.int 30 752) (.int 120 691)), (.mk 31 (.int 31 754) (.int 120 691)), (.mk 32 (.int 32 756) (.int 120 691)), (.mk 33 (.int 33 758) (.int 120 691)), (.mk 34 (.int 34 760) (.int 120 691)), (.mk 35 (.int 35 762) (.int 120 691)), (.mk 36 (.int 36 764) (.int 120 691)), (.mk 37 (.int 37 766) (.int 120 691)), (.mk 38 (.int 38 768) (.int 120 691)), (.mk 39 (.int 39 770) (.int 120 691)), (.mk 40 (.int 40 772) (.int 40 965)), (.mk 41 (.int 41 774) (.int 41 995)), (.mk 42 (.int 42 776) (.int 120 691)), (.mk 43 (.int 43 778) (.int 120 691)), (.mk 44 (.int 44 780) (.int 120 691)), (.mk 45 (.int 45 782) (.int 120 691)), (.mk 46 (.int 46 784) (.int 120 691)), (.mk 47 (.int 47 786) (.int 120 691)), (.mk 48 (.int 48 788) (.int 120 691)), (.mk 49 (.int 49 790) (.int 120 691)), (.mk 50 (.int 50 792) (.int 120 691)), (.mk 51 (.int 51 794) (.int 120 691)), (.mk 52 (.int 52 796) (.int 120 691)), (.mk 53 (.int 53 798) (.int 120 691)), (.mk 54 (.int 54 800) (.int 120 691)), (.mk 55 (.int 55 802) (.int 120 691)), (.mk 56 (.int 56 804) (.int 120 691)), (.mk 57 (.int 57 806) (.int 120 691)), (.mk 58 (.int 58 808) (.int 120 691)), (.mk 59 (.int 59 810) (.int 120 691)), (.mk 60 (.int 60 812) (.int 120 691)), (.mk 61 (.int 61 814) (.int 120 691)), (.mk 62 (.int 62 816) (.int 120 691)), (.mk 63 (.int 63 818) (.int 120 691)), (.mk 64 (.int 64 820) (.int 120 691)), (.mk 65 (.int 65 822) (.int 120 691)), (.mk 66 (.int 66 824) (.int 120 691)), (.mk 67 (.int 67 826) (.int 120 691)), (.mk 68 (.int 68 828) (.int 120 691)), (.mk 69 (.int 69 830) (.int 120 691)), (.mk 70 (.int 70 832) (.int 120 691)), (.mk 71 (.int 71 834) (.int 120 691)), (.mk 72 (.int 72 836) (.int 120 691)), (.mk 73 (.int 73 838) (.int 120 691)), (.mk 74 (.int 74 840) (.int 120 691)), (.mk 75 (.int 75 842) (.int 120 691)), (.mk 76 (.int 76 844) (.int 120 691)), (.mk 77 (.int 77 846) (.int 120 691)), (.mk 78 (.int 78 848) (.int 120 691)), (.mk 79 (.int 79 850) (.int 120 691)), (.mk 80 (.int 80 852) (.int 120 691)), (.mk 81 (.int 81 854) (.int 120 691)), (.mk 82 (.int 82 856) (.int 120 691)), (.mk 83 (.int 83 858) (.int 120 691)), (.mk 84 (.int 84 860) (.int 120 691)), (.mk 85 (.int 85 862) (.int 120 691)), (.mk 86 (.int 86 864) (.int 120 691)), (.mk 87 (.int 87 866) (.int 120 691)), (.mk 88 (.int 88 868) (.int 120 691)), (.mk 89 (.int 89 870) (.int 120 691)), (.mk 90 (.int 90 872) (.int 120 691)), (.mk 91 (.int 91 874) (.int 40 977)), (.mk 92 (.int 92 876) (.int 120 691)), (.mk 93 (.int 93 878) (.int 41 1007)), (.mk 94 (.int 94 880) (.int 120 691)), (.mk 95 (.int 95 882) (.int 120 691)), (.mk 96 (.int 96 884) (.int 120 691)), (.mk 97 (.int 97 886) (.int 120 691)), (.mk 98 (.int 98 888) (.int 120 691)), (.mk 99 (.int 99 890) (.int 120 691)), (.mk 100 (.int 100 892) (.int 120 691)), (.mk 101 (.int 101 894) (.int 120 691)), (.mk 102 (.int 102 896) (.int 120 691)), (.mk 103 (.int 103 898) (.int 120 691)), (.mk 104 (.int 104 900) (.int 120 691)), (.mk 105 (.int 105 902) (.int 120 691)), (.mk 106 (.int 106 904) (.int 120 691)), (.mk 107 (.int 107 906) (.int 120 691)), (.mk 108 (.int 108 908) (.int 120 691)), (.mk 109 (.int 109 910) (.int 120 691)), (.mk 110 (.int 110 912) (.int 120 691)), (.mk 111 (.int 111 914) (.int 120 691)), (.mk 112 (.int 112 916) (.int 120 691)), (.mk 113 (.int 113 918) (.int 120 691)), (.mk 114 (.int 114 920) (.int 120 691)), (.mk 115 (.int 115 922) (.int 120 691)), (.mk 116 (.int 116 924) (.int 120 691)), (.mk 117 (.int 117 926) (.int 120 691)), (.mk 118 (.int 118 928) (.int 120 691)), (.mk 119 (.int 119 930) (.int 120 691)), (.mk 120 (.int 120 932) (.int 120 691)), (.mk 121 (.int 121 934) (.int 120 691)), (.mk 122 (.int 122 936) (.int 120 691)), (.mk 123 (.int 123 938) (.int 40 971)), (.mk 124 (.int 124 940) (.int 120 691)), (.mk 125 (.int 125 942) (.int 41 1001)), (.mk 126 (.int 126 944) (.int 120 691)), (.mk 127 (.int 127 946) (.int 120 691))] 128) #[])
noncomputable def hG12_104 (P : Params) : Obj := (.mk (.type "str_ascii_iterator") none (.fields #[.none, .int 3 0]) #[])
noncomputable def hG12_105 (P : Params) : Obj := (.mk (.type "tuple") none (.seq #[] 0) #[])
noncomputable def hG12_106 (P : Params) : Obj := (.mk .none none (.fields #[]) #[])
noncomputable def hG12_107 (P : Params) : Obj := (.mk (.type "code") none (.fields #[(.str "<genexpr>" 980), (.str "<genexpr>" 981), (.str "/claim/cut.py" 982), .int 19 0, .int 1 0, .int 0 0, .int 0 0, .int 35 0, .ref 105, .bool true, .int 276 0, .ref 106, .none, .none, .none, .none, .int 983 0, .int 19 0, (.str "/claim/cut.py" 984)]) #[])
noncomputable def hG12_108 (P : Params) : Obj := (.mk (.type "frame") none (.dict #[(.mk (PyData.keyHash P ".0") (.str ".0" 985) (.ref 104)), (.mk (PyData.keyHash P "c") (.str "c" 992) (.str "]" 1003))] 2) #[])
noncomputable def hG12_109 (P : Params) : Obj := (.mk (.type "generator") none (.fields #[.int 1 0, (.str "<genexpr>" 986), (.str "<genexpr>" 987)]) #[])
noncomputable def hG12_110 (P : Params) : Obj := (.mk (.type "tuple") none (.seq #[(.str "'generator' object has no attribute 'keys'" 989)] 0) #[])
noncomputable def hG12_111 (P : Params) : Obj := (.mk (.type "AttributeError") none (.fields #[.ref 110, .none, .none, .none, .bool false, .none, (.str "keys" 990), .ref 109]) #[])
noncomputable def hG12_112 (P : Params) : Obj := (.mk (.type "tuple") none (.seq #[.int 41 993, .int 41 995] 0) #[])
noncomputable def hG12_113 (P : Params) : Obj := (.mk (.type "tuple") none (.seq #[.int 125 999, .int 41 1001] 0) #[])
noncomputable def hG12_114 (P : Params) : Obj := (.mk (.type "tuple") none (.seq #[.int 93 1005, .int 41 1007] 0) #[])
noncomputable def hG12_115 (P : Params) : Obj := (.mk (.type "tuple") none (.seq #[] 0) #[])
noncomputable def hG12_116 (P : Params) : Obj := (.mk (.type "StopIteration") none (.fields #[.ref 115, .none, .none, .none, .bool false, .none]) #[])
noncomputable def hG12_117 (P : Params) : Obj := (.mk (.type "tuple") none (.seq #[] 0) #[])
noncomputable def hG12_118 (P : Params) : Obj := (.mk (.type "StopIteration") none (.fields #[.ref 117, .none, .none, .none, .bool false, .none]) #[])
noncomputable def treeG12 (P : Params) : BT := (.node (h0_0 P) (.node (h0_1 P) (.node (hG10_3 P) (.node (h0_7 P) (.node (h0_15 P) (.node (hp_31 P) (.node (hG6_63 P) .nil .nil) (.node (hG11_95 P) .nil .nil)) (.node (hG0_47 P) (.node (hG6_79 P) .nil .nil) (.node (hG12_111 P) .nil .nil))) (.node (h0_23 P) (.node (hG0_39 P) (.node (hG6_71 P) .nil .nil) (.node (hG11_103 P) .nil .nil)) (.node (hG5_55 P) (.node (hG10_87 P) .nil .nil) .nil))) (.node (h0_11 P) (.node (h0_19 P) (.node (hG0_35 P) (.node (hG6_67 P) .nil .nil) (.node (hG11_99 P) .nil .nil)) (.node (hG4_51 P) (.node (hG10x0_83 P) .nil .nil) (.node (hG12_115 P) .nil .nil))) (.node (h0_27 P) (.node (hG0_43 P) (.node (hG6_75 P) .nil .nil) (.node (hG12_107 P) .nil .nil)) (.node (hG6_59 P) (.node (hG11_91 P) .nil .nil) .nil)))) (.node (h0_5 P) (.node (h0_9 P) (.node (h0_17 P) (.node (hG0_33 P) (.node (hG6_65 P) .nil .nil) (.node (hG11_97 P) .nil .nil)) (.node (hG4_49 P) (.node (hG6_81 P) .nil .nil) (.node (hG12_113 P) .nil .nil))) (.node (h0_25 P) (.node (hG0_41 P) (.node (hG6_73 P) .nil .nil) (.node (hG12_105 P) .nil .nil)) (.node (hG5_57 P) (.node (hG11_89 P) .nil .nil) .nil))) (.node (h0_13 P) (.node (h0_21 P) (.node (hG0_37 P) (.node (hG6_69 P) .nil .nil) (.node (hG11_101 P) .nil .nil)) (.node (hG4_53 P) (.node (hG12_85 P) .nil .nil) (.node (hG12_117 P) .nil .nil))) (.node (hG12_29 P) (.node (hG0_45 P) (.node (hG6_77 P) .nil .nil) (.node (hG12_109 P) .nil .nil)) (.node (hG6_61 P) (.node (hG11_93 P) .nil .nil) .nil))))) (.node (h0_2 P) (.node (h0_4 P) (.node (h0_8 P) (.node (h0_16 P) (.node (hG0_32 P) (.node (hG6_64 P) .nil .nil) (.node (hG11_96 P) .nil .nil)) (.node (hG0_48 P) (.node (hG6_80 P) .nil .nil) (.node (hG12_112 P) .nil .nil))) (.node (h0_24 P) (.node (hG0_40 P) (.node (hG6_72 P) .nil .nil) (.node (hG12_104 P) .nil .nil)) (.node (hG5_56 P) (.node (hG10_88 P) .nil .nil) .nil))) (.node (h0_12 P) (.node (h0_20 P) (.node (hG0_36 P) (.node (hG6_68 P) .nil .nil) (.node (hG11_100 P) .nil .nil)) (.node (hG4_52 P) (.node (hG10x0_84 P) .nil .nil) (.node (hG12_116 P) .nil .nil))) (.node (hp_28 P) (.node (hG0_44 P) (.node (hG6_76 P) .nil .nil) (.node (hG12_108 P) .nil .nil)) (.node (hG6_60 P) (.node (hG11_92 P) .nil .nil) .nil)))) (.node (h0_6 P) (.node (h0_10 P) (.node (h0_18 P) (.node (hG0_34 P) (.node (hG6_66 P) .nil .nil) (.node (hG11_98 P) .nil .nil)) (.node (hG4_50 P) (.node (hG10x0_82 P) .nil .nil) (.node (hG12_114 P) .nil .nil))) (.node (h0_26 P) (.node (hG0_42 P) (.node (hG6_74 P) .nil .nil) (.node (hG12_106 P) .nil .nil)) (.node (hG6_58 P) (.node (hG11_90 P) .nil .nil) .nil))) (.node (h0_14 P) (.node (h0_22 P) (.node (hG0_38 P) (.node (hG6_70 P) .nil .nil) (.node (hG11_102 P) .nil .nil)) (.node (hG5_54 P) (.node (hG10x128_86 P) .nil .nil) (.node (hG12_118 P) .nil .nil))) (.node (hp_30 P) (.node (hG0_46 P) (.node (hG6_78 P) .nil .nil) (.node (hG12_110 P) .nil .nil)) (.node (hG6_62 P) (.node (hG11_94 P) .nil .nil) .nil))))))
noncomputable def h_G12_q (w : World) (os : OsState) : Prop := segRunT treeTable p9 w 28 ann9 1 367 (SharedT.mk (treeG11 w.params) 104 (@PySem.Life.mk [] [] [] 0 [] [] @Bool.false (@List.toArray @Nat []) [] 0 @Bool.false @Bool.false @Bool.false (0 : Int) [(2000 : Int), (10 : Int), (10 : Int)] @Bool.false 0 @Bool.true [] [] 0 @Bool.false) (Array.mk [GenState.finished]) (@PySem.Drawn.mk 0 0 0 0) 979 os) (piecesOf ((b9.drop 12).take 1) e9 c9 (@PySem.Pos.mk 18 0 18 49) B9) = some (Flow.next, (SharedT.mk (treeG12 w.params) 119 (@PySem.Life.mk [] [] [] 0 [] [] @Bool.false (@List.toArray @Nat []) [] 0 @Bool.false @Bool.false @Bool.false (0 : Int) [(2000 : Int), (10 : Int), (10 : Int)] @Bool.false 0 @Bool.true [] [] 0 @Bool.false) (Array.mk [GenState.finished, GenState.finished]) (@PySem.Drawn.mk 0 0 0 0) 1009 os), c9, (@PySem.Pos.mk 19 0 19 49))
theorem h_G12_ff (w : World) (os : OsState) : h_G12_q ((w.withFollow "special-get-raises" false).withFollow "comprehension-iter-twice" false) os := by
  unfold h_G12_q
  (rw [show @PySem.W.segRunT = _ from PySem.W.Fast.te10110043849684766642, show treeTable = _ from PySem.W.Fast.te14364793385576792824]; kernel_rfl)
theorem h_G12_ft (w : World) (os : OsState) : h_G12_q ((w.withFollow "special-get-raises" true).withFollow "comprehension-iter-twice" false) os := by
  unfold h_G12_q
  (rw [show @PySem.W.segRunT = _ from PySem.W.Fast.te10110043849684766642, show treeTable = _ from PySem.W.Fast.te14364793385576792824]; kernel_rfl)
theorem h_G12_tf (w : World) (os : OsState) : h_G12_q ((w.withFollow "special-get-raises" false).withFollow "comprehension-iter-twice" true) os := by
  unfold h_G12_q
  (rw [show @PySem.W.segRunT = _ from PySem.W.Fast.te10110043849684766642, show treeTable = _ from PySem.W.Fast.te14364793385576792824]; kernel_rfl)
theorem h_G12_tt (w : World) (os : OsState) : h_G12_q ((w.withFollow "special-get-raises" true).withFollow "comprehension-iter-twice" true) os := by
  unfold h_G12_q
  (rw [show @PySem.W.segRunT = _ from PySem.W.Fast.te10110043849684766642, show treeTable = _ from PySem.W.Fast.te14364793385576792824]; kernel_rfl)
theorem h_G12 (w : World) (os : OsState) : segRunT treeTable p9 w 28 ann9 1 367 (SharedT.mk (treeG11 w.params) 104 (@PySem.Life.mk [] [] [] 0 [] [] @Bool.false (@List.toArray @Nat []) [] 0 @Bool.false @Bool.false @Bool.false (0 : Int) [(2000 : Int), (10 : Int), (10 : Int)] @Bool.false 0 @Bool.true [] [] 0 @Bool.false) (Array.mk [GenState.finished]) (@PySem.Drawn.mk 0 0 0 0) 979 os) (piecesOf ((b9.drop 12).take 1) e9 c9 (@PySem.Pos.mk 18 0 18 49) B9) = some (Flow.next, (SharedT.mk (treeG12 w.params) 119 (@PySem.Life.mk [] [] [] 0 [] [] @Bool.false (@List.toArray @Nat []) [] 0 @Bool.false @Bool.false @Bool.false (0 : Int) [(2000 : Int), (10 : Int), (10 : Int)] @Bool.false 0 @Bool.true [] [] 0 @Bool.false) (Array.mk [GenState.finished, GenState.finished]) (@PySem.Drawn.mk 0 0 0 0) 1009 os), c9, (@PySem.Pos.mk 19 0 19 49)) := byRow2 "comprehension-iter-twice" (P := fun w => ∀ os, h_G12_q w os) (byRow2 "special-get-raises" (P := fun w => ∀ os, h_G12_q (w.withFollow "comprehension-iter-twice" false) os) h_G12_ff h_G12_ft) (byRow2 "special-get-raises" (P := fun w => ∀ os, h_G12_q (w.withFollow "comprehension-iter-twice" true) os) h_G12_tf h_G12_tt) w os
noncomputable def hG13_29 (P : Params) : Obj := (.mk .none none (.fields #[.int 2 0, .int 0 0, .ref 37, .int 13 0, .int 0 0, .ref 66, .int 18 0, .int 13 0, .ref 92, .int 19 0, .int 13 0, .ref 107, .int 20 0, .int 13 0, .ref 122]) #[])
noncomputable def hG13_85 (P : Params) : Obj := (.mk (.ref 77) (some 84) (.dict #[(.mk 0 (.int 0 692) (.int 120 691)), (.mk 1 (.int 1 694) (.int 120 691)), (.mk 2 (.int 2 696) (.int 120 691)), (.mk 3 (.int 3 698) (.int 120 691)), (.mk 4 (.int 4 700) (.int 120 691)), (.mk 5 (.int 5 702) (.int 120 691)), (.mk 6 (.int 6 704) (.int 120 691)), (.mk 7 (.int 7 706) (.int 120 691)), (.mk 8 (.int 8 708) (.int 120 691)), (.mk 9 (.int 9 710) (.int 120 691)), (.mk 10 (.int 10 712) (.int 10 1039)), (.mk 11 (.int 11 714) (.int 120 691)), (.mk 12 (.int 12 716) (.int 120 691)), (.mk 13 (.int 13 718) (.int 120 691)), (.mk 14 (.int 14 720) (.int 120 691)), (.mk 15 (.int 15 722) (.int 120 691)), (.mk 16 (.int 16 724) (.int 120 691)), (.mk 17 (.int 17 726) (.int 120 691)), (.mk 18 (.int 18 728) (.int 120 691)), (.mk 19 (.int 19 730) (.int 120 691)), (.mk 20 (.int 20 732) (.int 120 691)), (.mk 21 (.int 21 734) (.int 120 691)), (.mk 22 (.int 22 736) (.int 120 691)), (.mk 23 (.int 23 738) (.int 120 691)), (.mk 24 (.int 24 740) (.int 120 691)), (.mk 25 (.int 25 742) (.int 120 691)), (.mk 26 (.int 26 744) (.int 120 691)), (.mk 27 (.int 27 746) (.int 120 691)), (.mk 28 (.int 28 748) (.int 120 691)), (.mk 29 (.int 29 750) (.int 120 691)), (.mk 30 (.int 30 752) (.int 120 691)), (.mk 31 (.int 31 754) (.int 120 691)), (.mk 32 (.int 32 756) (.int 120 691)), (.mk 33 (.int 33 758) (.int 120 691)), (.mk 34 (.int 34 760) (.int 34 1024)), (.mk 35 (.int 35 762) (.int 35 1044)), (.mk 36 (.int 36 764) (.int 120 691)), (.mk 37 (.int 37 766) (.int 120 691)), (.mk 38 (.int 38 768) (.int 120 691)), (.mk 39 (.int 39 770) (.int 39 1029)), (.mk 40 (.int 40 772) (.int 40 965)), (.mk 41 (.int 41 774) (.int 41 995)), (.mk 42 (.int 42 776) (.int 120 691)), (.mk 43 (.int 43 778) (.int 120 691)), (.mk 44 (.int 44 780) (.int 120 691)), (.mk 45 (.int 45 782) (.int 120 691)), (.mk 46 (.int 46 784) (.int 120 691)), (.mk 47 (.int 47 786) (.int 120 691)), (.mk 48 (.int 48 788) (.int 120 691)), (.mk 49 (.int 49 790) (.int 120 691)), (.mk 50 (.int 50 792) (.int 120 691)), (.mk 51 (.int 51 794) (.int 120 691)), (.mk 52 (.int 52 796) (.int 120 691)), (.mk 53 (.int 53 798) (.int 120 691)), (.mk 54 (.int 54 800) (.int 120 691)), (.mk 55 (.int 55 802) (.int 120 691)), (.mk 56 (.int 56 804) (.int 120 691)), (.mk 57 (.int 57 806) (.int 120 691)), (.mk 58 (.int 58 808) (.int 120 691)), (.mk 59 (.int 59 810) (.int 120 691)), (.mk 60 (.int 60 812) (.int 120 691)), (.mk 61 (.int 61 814) (.int 120 691)), (.mk 62 (.int 62 816) (.int 120 691)), (.mk 63 (.int 63 818) (.int 120 691)), (.mk 64 (.int 64 820) (.int 120 691)), (.mk 65 (.int 65 822) (.int 120 691)), (.mk 66 (.int 66 824) (.int 120 691)), (.mk 67 (.int 67 826) (.int 120 691)), (.mk 68 (.int 68 828) (.int 120 691)), (.mk 69 (.int 69 830) (.int 120 691)), (.mk 70 (.int 70 832) (.int 120 691)), (.mk 71 (.int 71 834) (.int 120 691)), (.mk 72 (.int 72 836) (.int 120 691)), (.mk 73 (.int 73 838) (.int 120 691)), (.mk 74 (.int 74 840) (.int 120 691)), (.mk 75 (.int 75 842) (.int 120 691)), (.mk 76 (.int 76 844) (.int 120 691)), (.mk 77 (.int 77 846) (.int 120 691)), (.mk 78 (.int 78 848) (.int 120 691)), (.mk 79 (.int 79 850) (.int 120 691)), (.mk 80 (.int 80 852) (.int 120 691)), (.mk 81 (.int 81 854) (.int 120 691)), (.mk 82 (.int 82 856) (.int 120 691)), (.mk 83 (.int 83 858) (.int 120 691)), (.mk 84 (.int 84 860) (.int 120 691)), (.mk 85 (.int 85 862) (.int 120 691)), (.mk 86 (.int 86 864) (.int 120 691)), (.mk 87 (.int 87 866) (.int 120 691)), (.mk 88 (.int 88 868) (.int 120 691)), (.mk 89 (.int 89 870) (.int 120 691)), (.mk 90 (.int 90 872) (.int 120 691)), (.mk 91 (.int 91 874) (.int 40 977)), (.mk 92 (.int 92 876) (.int 92 1034)), (.mk 93 (.int 93 878) (.int 41 1007)), (.mk 94 (.int 94 880) (.int 120 691)), (.mk 95 (.int 95 882) (.int 120 691)), (.mk 96 (.int 96 884) (.int 120 691)), (.mk 97 (.int 97 886) (.int 120 691)), (.mk 98 (.int 98 888) (.int 120 691)), (.mk 99 (.int 99 890) (.int 120 691)), (.mk 100 (.int 100 892) (.int 120 691)), (.mk 101 (.int 101 894) (.int 120 691)), (.mk 102 (.int 102 896) (.int 120 691)), (.mk 103 (.int 103 898) (.int 120 691)), (.mk 104 (.int 104 900) (.int 120 691)), (.mk 105 (.int 105 902) (.int 120 691)), (.mk 106 (.int 106 904) (.int 120 691)), (.mk 107 (.int 107 906) (.int 120 691)), (.mk 108 (.int 108 908) (.int 120 691)), (.mk 109 (.int 109 910) (.int 120 691)), (.mk 110 (.int 110 912) (.int 120 691)), (.mk 111 (.int 111 914) (.int 120 691)), (.mk 112 (.int 112 916) (.int 120 691)), (.mk 113 (.int 113 918) (.int 120 691)), (.mk 114 (.int 114 920) (.int 120 691)), (.mk 115 (.int 115 922) (.int 120 691)), (.mk 116 (.int 116 924) (.int 120 691)), (.mk 117 (.int 117 926) (.int 120 691)), (.mk 118 (.int 118 928) (.int 120 691)), (.mk 119 (.int 119 930) (.int 120 691)), (.mk 120 (.int 120 932) (.int 120 691)), (.mk 121 (.int 121 934) (.int 120 691)), (.mk 122 (.int 122 936) (.int 120 691)), (.mk 123 (.int 123 938) (.int 40 971)), (.mk 124 (.int 124 940) (.int 120 691)), (.mk 125 (.int 125 942) (.int 41 1001)), (.mk 126 (.int 126 944) (.int 120 691)), (.mk 127 (.int 127 946) (.int 120 691))] 128) #[])
noncomputable def hG13_119 (P : Params) : Obj := (.mk (.type "str_ascii_iterator") none (.fields #[.none, .int 5 0]) #[])
noncomputable def hG13_120 (P : Params) : Obj := (.mk (.type "tuple") none (.seq #[] 0) #[])
noncomputable def hG13_121 (P : Params) : Obj := (.mk .none none (.fields #[]) #[])
noncomputable def hG13_122 (P : Params) : Obj := (.mk (.type "code") none (.fields #[(.str "<genexpr>" 1010), (.str "<genexpr>" 1011), (.str "/claim/cut.py" 1012), .int 20 0, .int 1 0, .int 0 0, .int 0 0, .int 35 0, .ref 120, .bool true, .int 276 0, .ref 121, .none, .none, .none, .none, .int 1013 0, .int 20 0, (.str "/claim/cut.py" 1014)]) #[])
noncomputable def hG13_123 (P : Params) : Obj := (.mk (.type "frame") none (.dict #[(.mk (PyData.keyHash P ".0") (.str ".0" 1015) (.ref 119)), (.mk (PyData.keyHash P "c") (.str "c" 1022) (.str "#" 1041))] 2) #[])
noncomputable def hG13_124 (P : Params) : Obj := (.mk (.type "generator") none (.fields #[.int 2 0, (.str "<genexpr>" 1016), (.str "<genexpr>" 1017)]) #[])
noncomputable def hG13_125 (P : Params) : Obj := (.mk (.type "tuple") none (.seq #[(.str "'generator' object has no attribute 'keys'" 1019)] 0) #[])
noncomputable def hG13_126 (P : Params) : Obj := (.mk (.type "AttributeError") none (.fields #[.ref 125, .none, .none, .none, .bool false, .none, (.str "keys" 1020), .ref 124]) #[])
noncomputable def hG13_127 (P : Params) : Obj := (.mk (.type "tuple") none (.seq #[.int 34 1023, .int 34 1024] 0) #[])
noncomputable def hG13_128 (P : Params) : Obj := (.mk (.type "tuple") none (.seq #[.int 39 1028, .int 39 1029] 0) #[])
noncomputable def hG13_129 (P : Params) : Obj := (.mk (.type "tuple") none (.seq #[.int 92 1033, .int 92 1034] 0) #[])
noncomputable def hG13_130 (P : Params) : Obj := (.mk (.type "tuple") none (.seq #[.int 10 1038, .int 10 1039] 0) #[])
noncomputable def hG13_131 (P : Params) : Obj := (.mk (.type "tuple") none (.seq #[.int 35 1043, .int 35 1044] 0) #[])
noncomputable def hG13_132 (P : Params) : Obj := (.mk (.type "tuple") none (.seq #[] 0) #[])
noncomputable def hG13_133 (P : Params) : Obj := (.mk (.type "StopIteration") none (.fields #[.ref 132, .none, .none, .none, .bool false, .none]) #[])
noncomputable def hG13_134 (P : Params) : Obj := (.mk (.type "tuple") none (.seq #[] 0) #[])
noncomputable def hG13_135 (P : Params) : Obj := (.mk (.type "StopIteration") none (.fields #[.ref 134, .none, .none, .none, .bool false, .none]) #[])
noncomputable def treeG13 (P : Params) : BT := (.node (h0_0 P) (.node (h0_1 P) (.node (hG10_3 P) (.node (h0_7 P) (.node (h0_15 P) (.node (hp_31 P) (.node (hG6_63 P) (.node (hG13_127 P) .nil .nil) .nil) (.node (hG11_95 P) .nil .nil)) (.node (hG0_47 P) (.node (hG6_79 P) .nil .nil) (.node (hG12_111 P) .nil .nil))) (.node (h0_23 P) (.node (hG0_39 P) (.node (hG6_71 P) (.node (hG13_135 P) .nil .nil) .nil) (.node (hG11_103 P) .nil .nil)) (.node (hG5_55 P) (.node (hG10_87 P) .nil .nil) (.node (hG13_119 P) .nil .nil)))) (.node (h0_11 P) (.node (h0_19 P) (.node (hG0_35 P) (.node (hG6_67 P) (.node (hG13_131 P) .nil .nil) .nil) (.node (hG11_99 P) .nil .nil)) (.node (hG4_51 P) (.node (hG10x0_83 P) .nil .nil) (.node (hG12_115 P) .nil .nil))) (.node (h0_27 P) (.node (hG0_43 P) (.node (hG6_75 P) .nil .nil) (.node (hG12_107 P) .nil .nil)) (.node (hG6_59 P) (.node (hG11_91 P) .nil .nil) (.node (hG13_123 P) .nil .nil))))) (.node (h0_5 P) (.node (h0_9 P) (.node (h0_17 P) (.node (hG0_33 P) (.node (hG6_65 P) (.node (hG13_129 P) .nil .nil) .nil) (.node (hG11_97 P) .nil .nil)) (.node (hG4_49 P) (.node (hG6_81 P) .nil .nil) (.node (hG12_113 P) .nil .nil))) (.node (h0_25 P) (.node (hG0_41 P) (.node (hG6_73 P) .nil .nil) (.node (hG12_105 P) .nil .nil)) (.node (hG5_57 P) (.node (hG11_89 P) .nil .nil) (.node (hG13_121 P) .nil .nil)))) (.node (h0_13 P) (.node (h0_21 P) (.node (hG0_37 P) (.node (hG6_69 P) (.node (hG13_133 P) .nil .nil) .nil) (.node (hG11_101 P) .nil .nil)) (.node (hG4_53 P) (.node (hG13_85 P) .nil .nil) (.node (hG12_117 P) .nil .nil))) (.node (hG13_29 P) (.node (hG0_45 P) (.node (hG6_77 P) .nil .nil) (.node (hG12_109 P) .nil .nil)) (.node (hG6_61 P) (.node (hG11_93 P) .nil .nil) (.node (hG13_125 P) .nil .nil)))))) (.node (h0_2 P) (.node (h0_4 P) (.node (h0_8 P) (.node (h0_16 P) (.node (hG0_32 P) (.node (hG6_64 P) (.node (hG13_128 P) .nil .nil) .nil) (.node (hG11_96 P) .nil .nil)) (.node (hG0_48 P) (.node (hG6_80 P) .nil .nil) (.node (hG12_112 P) .nil .nil))) (.node (h0_24 P) (.node (hG0_40 P) (.node (hG6_72 P) .nil .nil) (.node (hG12_104 P) .nil .nil)) (.node (hG5_56 P) (.node (hG10_88 P) .nil .nil) (.node (hG13_120 P) .nil .nil)))) (.node (h0_12 P) (.node (h0_20 P) (.node (hG0_36 P) (.node (hG6_68 P) (.node (hG13_132 P) .nil .nil) .nil) (.node (hG11_100 P) .nil .nil)) (.node (hG4_52 P) (.node (hG10x0_84 P) .nil .nil) (.node (hG12_116 P) .nil .nil))) (.node (hp_28 P) (.node (hG0_44 P) (.node (hG6_76 P) .nil .nil) (.node (hG12_108 P) .nil .nil)) (.node (hG6_60 P) (.node (hG11_92 P) .nil .nil) (.node (hG13_124 P) .nil .nil))))) (.node (h0_6 P) (.node (h0_10 P) (.node (h0_18 P) (.node (hG0_34 P) (.node (hG6_66 P) (.node (hG13_130 P) .nil .nil) .nil) (.node (hG11_98 P) .nil .nil)) (.node (hG4_50 P) (.node (hG10x0_82 P) .nil .nil) (.node (hG12_114 P) .nil .nil))) (.node (h0_26 P) (.node (hG0_42 P) (.node (hG6_74 P) .nil .nil) (.node (hG12_106 P) .nil .nil)) (.node (hG6_58 P) (.node (hG11_90 P) .nil .nil) (.node (hG13_122 P) .nil .nil)))) (.node (h0_14 P) (.node (h0_22 P) (.node (hG0_38 P) (.node (hG6_70 P) (.node (hG13_134 P) .nil .nil) .nil) (.node (hG11_102 P) .nil .nil)) (.node (hG5_54 P) (.node (hG10x128_86 P) .nil .nil) (.node (hG12_118 P) .nil .nil))) (.node (hp_30 P) (.node (hG0_46 P) (.node (hG6_78 P) .nil .nil) (.node (hG12_110 P) .nil .nil)) (.node (hG6_62 P) (.node (hG11_94 P) .nil .nil) (.node (hG13_126 P) .nil .nil)))))))
noncomputable def h_G13_q (w : World) (os : OsState) : Prop := segRunT treeTable p9 w 28 ann9 1 522 (SharedT.mk (treeG12 w.params) 119 (@PySem.Life.mk [] [] [] 0 [] [] @Bool.false (@List.toArray @Nat []) [] 0 @Bool.false @Bool.false @Bool.false (0 : Int) [(2000 : Int), (10 : Int), (10 : Int)] @Bool.false 0 @Bool.true [] [] 0 @Bool.false) (Array.mk [GenState.finished, GenState.finished]) (@PySem.Drawn.mk 0 0 0 0) 1009 os) (piecesOf ((b9.drop 13).take 1) e9 c9 (@PySem.Pos.mk 19 0 19 49) B9) = some (Flow.next, (SharedT.mk (treeG13 w.params) 136 (@PySem.Life.mk [] [] [] 0 [] [] @Bool.false (@List.toArray @Nat []) [] 0 @Bool.false @Bool.false @Bool.false (0 : Int) [(2000 : Int), (10 : Int), (10 : Int)] @Bool.false 0 @Bool.true [] [] 0 @Bool.false) (Array.mk [GenState.finished, GenState.finished, GenState.finished]) (@PySem.Drawn.mk 0 0 0 0) 1046 os), c9, (@PySem.Pos.mk 20 0 20 52))
theorem h_G13_ff (w : World) (os : OsState) : h_G13_q ((w.withFollow "special-get-raises" false).withFollow "comprehension-iter-twice" false) os := by
  unfold h_G13_q
  (rw [show @PySem.W.segRunT = _ from PySem.W.Fast.te10110043849684766642, show treeTable = _ from PySem.W.Fast.te14364793385576792824]; kernel_rfl)
theorem h_G13_ft (w : World) (os : OsState) : h_G13_q ((w.withFollow "special-get-raises" true).withFollow "comprehension-iter-twice" false) os := by
  unfold h_G13_q
  (rw [show @PySem.W.segRunT = _ from PySem.W.Fast.te10110043849684766642, show treeTable = _ from PySem.W.Fast.te14364793385576792824]; kernel_rfl)
theorem h_G13_tf (w : World) (os : OsState) : h_G13_q ((w.withFollow "special-get-raises" false).withFollow "comprehension-iter-twice" true) os := by
  unfold h_G13_q
  (rw [show @PySem.W.segRunT = _ from PySem.W.Fast.te10110043849684766642, show treeTable = _ from PySem.W.Fast.te14364793385576792824]; kernel_rfl)
theorem h_G13_tt (w : World) (os : OsState) : h_G13_q ((w.withFollow "special-get-raises" true).withFollow "comprehension-iter-twice" true) os := by
  unfold h_G13_q
  (rw [show @PySem.W.segRunT = _ from PySem.W.Fast.te10110043849684766642, show treeTable = _ from PySem.W.Fast.te14364793385576792824]; kernel_rfl)
theorem h_G13 (w : World) (os : OsState) : segRunT treeTable p9 w 28 ann9 1 522 (SharedT.mk (treeG12 w.params) 119 (@PySem.Life.mk [] [] [] 0 [] [] @Bool.false (@List.toArray @Nat []) [] 0 @Bool.false @Bool.false @Bool.false (0 : Int) [(2000 : Int), (10 : Int), (10 : Int)] @Bool.false 0 @Bool.true [] [] 0 @Bool.false) (Array.mk [GenState.finished, GenState.finished]) (@PySem.Drawn.mk 0 0 0 0) 1009 os) (piecesOf ((b9.drop 13).take 1) e9 c9 (@PySem.Pos.mk 19 0 19 49) B9) = some (Flow.next, (SharedT.mk (treeG13 w.params) 136 (@PySem.Life.mk [] [] [] 0 [] [] @Bool.false (@List.toArray @Nat []) [] 0 @Bool.false @Bool.false @Bool.false (0 : Int) [(2000 : Int), (10 : Int), (10 : Int)] @Bool.false 0 @Bool.true [] [] 0 @Bool.false) (Array.mk [GenState.finished, GenState.finished, GenState.finished]) (@PySem.Drawn.mk 0 0 0 0) 1046 os), c9, (@PySem.Pos.mk 20 0 20 52)) := byRow2 "comprehension-iter-twice" (P := fun w => ∀ os, h_G13_q w os) (byRow2 "special-get-raises" (P := fun w => ∀ os, h_G13_q (w.withFollow "comprehension-iter-twice" false) os) h_G13_ff h_G13_ft) (byRow2 "special-get-raises" (P := fun w => ∀ os, h_G13_q (w.withFollow "comprehension-iter-twice" true) os) h_G13_tf h_G13_tt) w os
noncomputable def hG14_3 (P : Params) : Obj := (.mk (.type "dict") none (.dict #[(.mk (PyData.keyHash P "__name__") (.str "__name__" 165) (.str "cpy313.idlelib.pyparse" 289)), (.mk (PyData.keyHash P "__doc__") (.str "__doc__" 166) .none), (.mk (PyData.keyHash P "__package__") (.str "__package__" 167) .none), (.mk (PyData.keyHash P "__loader__") (.str "__loader__" 168) (.builtin "__main__.__loader__#opaque")), (.mk (PyData.keyHash P "__spec__") (.str "__spec__" 169) .none), (.mk (PyData.keyHash P "__annotations__") (.str "__annotations__" 170) (.ref 6)), (.mk (PyData.keyHash P "__builtins__") (.str "__builtins__" 171) (.ref 4)), (.mk (PyData.keyHash P "__file__") (.str "__file__" 173) (.str "/claim/cut.py" 172)), (.mk (PyData.keyHash P "__cached__") (.str "__cached__" 174) .none), (.mk (PyData.keyHash P "_sre") (.str "_sre" 275) (.ref 12)), (.mk (PyData.keyHash P "_wall") (.str "_wall" 288) (.ref 38)), (.mk (PyData.keyHash P "_twin_re_2") (.str "_twin_re_2" 334) (.ref 43)), (.mk (PyData.keyHash P "_twin_re_3") (.str "_twin_re_3" 609) (.ref 48)), (.mk (PyData.keyHash P "_twin_re_6") (.str "_twin_re_6" 639) (.ref 53)), (.mk (PyData.keyHash P "C_NONE") (.str "C_NONE" 648) (.int 0 643)), (.mk (PyData.keyHash P "C_BACKSLASH") (.str "C_BACKSLASH" 649) (.int 1 644)), (.mk (PyData.keyHash P "C_STRING_FIRST_LINE") (.str "C_STRING_FIRST_LINE" 650) (.int 2 645)), (.mk (PyData.keyHash P "C_STRING_NEXT_LINES") (.str "C_STRING_NEXT_LINES" 651) (.int 3 646)), (.mk (PyData.keyHash P "C_BRACKET") (.str "C_BRACKET" 652) (.int 4 647)), (.mk (PyData.keyHash P "_junkre") (.str "_junkre" 654) (.ref 58)), (.mk (PyData.keyHash P "_match_stringre") (.str "_match_stringre" 656) (.ref 59)), (.mk (PyData.keyHash P "_chew_ordinaryre") (.str "_chew_ordinaryre" 658) (.ref 60)), (.mk (PyData.keyHash P "ParseMap") (.str "ParseMap" 686) (.ref 77)), (.mk (PyData.keyHash P "trans") (.str "trans" 948) (.ref 85)), (.mk (PyData.keyHash P "Parser") (.str "Parser" 1204) (.ref 243))] 25) #[])
noncomputable def hG14_29 (P : Params) : Obj := (.mk .none none (.fields #[.int 2 0, .int 0 0, .ref 37, .int 13 0, .int 0 0, .ref 66, .int 18 0, .int 13 0, .ref 92, .int 19 0, .int 13 0, .ref 107, .int 20 0, .int 13 0, .ref 122, .int 21 0, .int 0 0, .ref 141]) #[])
noncomputable def hG14_136 (P : Params) : Obj := (.mk (.type "tuple") none (.seq #[] 0) #[])
noncomputable def hG14_137 (P : Params) : Obj := (.mk (.type "builtin_function_or_method") none (.fields #[.builtin "type.__prepare__", .type "type"]) #[])
noncomputable def hG14_138 (P : Params) : Obj := (.mk (.type "dict") none (.dict #[(.mk (PyData.keyHash P "__module__") (.str "__module__" 1053) (.str "cpy313.idlelib.pyparse" 289)), (.mk (PyData.keyHash P "__qualname__") (.str "__qualname__" 1055) (.str "Parser" 1054)), (.mk (PyData.keyHash P "__firstlineno__") (.str "__firstlineno__" 1057) (.int 21 1056)), (.mk (PyData.keyHash P "__init__") (.str "__init__" 1066) (.ref 149)), (.mk (PyData.keyHash P "set_code") (.str "set_code" 1074) (.ref 156)), (.mk (PyData.keyHash P "find_good_parse_start") (.str "find_good_parse_start" 1082) (.ref 163)), (.mk (PyData.keyHash P "set_lo") (.str "set_lo" 1090) (.ref 170)), (.mk (PyData.keyHash P "_study1") (.str "_study1" 1109) (.ref 177)), (.mk (PyData.keyHash P "get_continuation_type") (.str "get_continuation_type" 1116) (.ref 184)), (.mk (PyData.keyHash P "_study2") (.str "_study2" 1136) (.ref 191)), (.mk (PyData.keyHash P "compute_bracket_indent") (.str "compute_bracket_indent" 1143) (.ref 198)), (.mk (PyData.keyHash P "get_num_lines_in_stmt") (.str "get_num_lines_in_stmt" 1150) (.ref 205)), (.mk (PyData.keyHash P "compute_backslash_indent") (.str "compute_backslash_indent" 1157) (.ref 212)), (.mk (PyData.keyHash P "get_base_indent_string") (.str "get_base_indent_string" 1164) (.ref 219)), (.mk (PyData.keyHash P "is_block_opener") (.str "is_block_opener" 1171) (.ref 226)), (.mk (PyData.keyHash P "is_block_closer") (.str "is_block_closer" 1178) (.ref 233)), (.mk (PyData.keyHash P "get_last_stmt_bracketing") (.str "get_last_stmt_bracketing" 1185) (.ref 240)), (.mk (PyData.keyHash P "__static_attributes__") (.str "__static_attributes__" 1197) (.ref 241))] 18) #[])
noncomputable def hG14_139 (P : Params) : Obj := (.mk (.type "tuple") none (.seq #[] 0) #[])
noncomputable def hG14_140 (P : Params) : Obj := (.mk .none none (.fields #[.int 23 0, .int 4 0, .ref 148, .int 27 0, .int 4 0, .ref 155, .int 32 0, .int 4 0, .ref 162, .int 35 0, .int 4 0, .ref 169, .int 38 0, .int 4 0, .ref 176, .int 123 0, .int 4 0, .ref 183, .int 126 0, .int 4 0, .ref 190, .int 199 0, .int 4 0, .ref 197, .int 202 0, .int 4 0, .ref 204, .int 205 0, .int 4 0, .ref 211, .int 208 0, .int 4 0, .ref 218, .int 211 0, .int 4 0, .ref 225, .int 214 0, .int 4 0, .ref 232, .int 217 0, .int 4 0, .ref 239]) #[])
noncomputable def hG14_141 (P : Params) : Obj := (.mk (.type "code") none (.fields #[(.str "Parser" 1048), (.str "Parser" 1049), (.str "/claim/cut.py" 1050), .int 21 0, .int 0 0, .int 0 0, .int 0 0, .int 0 0, .ref 139, .bool false, .int 276 0, .ref 140, .none, .none, .none, .none, .int 1051 0, .int 21 0, (.str "/claim/cut.py" 1052)]) #[])
noncomputable def hG14_142 (P : Params) : Obj := (.mk (.type "frame") none .plain #[(some (.ref 141)), (some (.ref 3)), (some (.ref 138)), none, (some (.str "cpy313.idlelib.pyparse" 289)), none, (some (.ref 0))])
noncomputable def hG14_143 (P : Params) : Obj := (.mk (.type "tuple") none (.seq #[] 0) #[])
noncomputable def hG14_144 (P : Params) : Obj := (.mk .none none (.fields #[]) #[])
noncomputable def hG14_145 (P : Params) : Obj := (.mk (.type "tuple") none (.seq #[(.str "self" 1061), (.str "indentwidth" 1062), (.str "tabwidth" 1063)] 0) #[])
noncomputable def hG14_146 (P : Params) : Obj := (.mk (.type "tuple") none (.seq #[] 0) #[])
noncomputable def hG14_147 (P : Params) : Obj := (.mk .none none (.func (.mk "__init__" "Parser.__init__" (fnA (stAt 0 (clsB (stAt 14 b9)))) (.stmts (fnB (stAt 0 (clsB (stAt 14 b9))))) (scB (stAt 0 (clsB (stAt 14 b9)))) 0 [] .none .none .none .none none .none .none 0)) #[])
noncomputable def hG14_148 (P : Params) : Obj := (.mk (.type "code") none (.fields #[(.str "__init__" 1058), (.str "Parser.__init__" 1059), (.str "/claim/cut.py" 1060), .int 23 0, .int 3 0, .int 0 0, .int 0 0, .int 3 0, .ref 143, .bool true, .int 276 0, .ref 144, .none, .ref 145, .ref 146, .ref 147, .int 1064 0, .int 23 0, (.str "/claim/cut.py" 1065)]) #[])
noncomputable def hG14_149 (P : Params) : Obj := (.mk (.type "function") none (.func (.mk "__init__" "Parser.__init__" (fnA (stAt 0 (clsB (stAt 14 b9)))) (.stmts (fnB (stAt 0 (clsB (stAt 14 b9))))) (scB (stAt 0 (clsB (stAt 14 b9)))) 3 [] .none .none .none (.str "cpy313.idlelib.pyparse" 289) none (.ref 148) .none 0)) #[])
noncomputable def hG14_150 (P : Params) : Obj := (.mk (.type "tuple") none (.seq #[] 0) #[])
noncomputable def hG14_151 (P : Params) : Obj := (.mk .none none (.fields #[]) #[])
noncomputable def hG14_152 (P : Params) : Obj := (.mk (.type "tuple") none (.seq #[(.str "self" 1070), (.str "s" 1071)] 0) #[])
noncomputable def hG14_153 (P : Params) : Obj := (.mk (.type "tuple") none (.seq #[] 0) #[])
noncomputable def hG14_154 (P : Params) : Obj := (.mk .none none (.func (.mk "set_code" "Parser.set_code" (fnA (stAt 1 (clsB (stAt 14 b9)))) (.stmts (fnB (stAt 1 (clsB (stAt 14 b9))))) (scB (stAt 1 (clsB (stAt 14 b9)))) 0 [] .none .none .none .none none .none .none 0)) #[])
noncomputable def hG14_155 (P : Params) : Obj := (.mk (.type "code") none (.fields #[(.str "set_code" 1067), (.str "Parser.set_code" 1068), (.str "/claim/cut.py" 1069), .int 27 0, .int 2 0, .int 0 0, .int 0 0, .int 3 0, .ref 150, .bool true, .int 276 0, .ref 151, .none, .ref 152, .ref 153, .ref 154, .int 1072 0, .int 27 0, (.str "/claim/cut.py" 1073)]) #[])
noncomputable def hG14_156 (P : Params) : Obj := (.mk (.type "function") none (.func (.mk "set_code" "Parser.set_code" (fnA (stAt 1 (clsB (stAt 14 b9)))) (.stmts (fnB (stAt 1 (clsB (stAt 14 b9))))) (scB (stAt 1 (clsB (stAt 14 b9)))) 3 [] .none .none .none (.str "cpy313.idlelib.pyparse" 289) none (.ref 155) .none 0)) #[])
noncomputable def hG14_157 (P : Params) : Obj := (.mk (.type "tuple") none (.seq #[] 0) #[])
noncomputable def hG14_158 (P : Params) : Obj := (.mk .none none (.fields #[]) #[])
noncomputable def hG14_159 (P : Params) : Obj := (.mk (.type "tuple") none (.seq #[(.str "self" 1078), (.str "is_char_in_string" 1079)] 0) #[])
noncomputable def hG14_160 (P : Params) : Obj := (.mk (.type "tuple") none (.seq #[] 0) #[])
noncomputable def hG14_161 (P : Params) : Obj := (.mk .none none (.func (.mk "find_good_parse_start" "Parser.find_good_parse_start" (fnA (stAt 2 (clsB (stAt 14 b9)))) (.stmts (fnB (stAt 2 (clsB (stAt 14 b9))))) (scB (stAt 2 (clsB (stAt 14 b9)))) 0 [] .none .none .none .none none .none .none 0)) #[])
noncomputable def hG14_162 (P : Params) : Obj := (.mk (.type "code") none (.fields #[(.str "find_good_parse_start" 1075), (.str "Parser.find_good_parse_start" 1076), (.str "/claim/cut.py" 1077), .int 32 0, .int 2 0, .int 0 0, .int 0 0, .int 3 0, .ref 157, .bool true, .int 276 0, .ref 158, .none, .ref 159, .ref 160, .ref 161, .int 1080 0, .int 32 0, (.str "/claim/cut.py" 1081)]) #[])
noncomputable def hG14_163 (P : Params) : Obj := (.mk (.type "function") none (.func (.mk "find_good_parse_start" "Parser.find_good_parse_start" (fnA (stAt 2 (clsB (stAt 14 b9)))) (.stmts (fnB (stAt 2 (clsB (stAt 14 b9))))) (scB (stAt 2 (clsB (stAt 14 b9)))) 3 [] .none .none .none (.str "cpy313.idlelib.pyparse" 289) none (.ref 162) .none 0)) #[])
noncomputable def hG14_164 (P : Params) : Obj := (.mk (.type "tuple") none (.seq #[] 0) #[])
noncomputable def hG14_165 (P : Params) : Obj := (.mk .none none (.fields #[]) #[])
noncomputable def hG14_166 (P : Params) : Obj := (.mk (.type "tuple") none (.seq #[(.str "self" 1086), (.str "lo" 1087)] 0) #[])
noncomputable def hG14_167 (P : Params) : Obj := (.mk (.type "tuple") none (.seq #[] 0) #[])
noncomputable def hG14_168 (P : Params) : Obj := (.mk .none none (.func (.mk "set_lo" "Parser.set_lo" (fnA (stAt 3 (clsB (stAt 14 b9)))) (.stmts (fnB (stAt 3 (clsB (stAt 14 b9))))) (scB (stAt 3 (clsB (stAt 14 b9)))) 0 [] .none .none .none .none none .none .none 0)) #[])
noncomputable def hG14_169 (P : Params) : Obj := (.mk (.type "code") none (.fields #[(.str "set_lo" 1083), (.str "Parser.set_lo" 1084), (.str "/claim/cut.py" 1085), .int 35 0, .int 2 0, .int 0 0, .int 0 0, .int 3 0, .ref 164, .bool true, .int 276 0, .ref 165, .none, .ref 166, .ref 167, .ref 168, .int 1088 0, .int 35 0, (.str "/claim/cut.py" 1089)]) #[])
noncomputable def hG14_170 (P : Params) : Obj := (.mk (.type "function") none (.func (.mk "set_lo" "Parser.set_lo" (fnA (stAt 3 (clsB (stAt 14 b9)))) (.stmts (fnB (stAt 3 (clsB (stAt 14 b9))))) (scB (stAt 3 (clsB (stAt 14 b9)))) 3 [] .none .none .none (.str "cpy313.idlelib.pyparse" 289) none (.ref 169) .none 0)) #[])
noncomputable def hG14_171 (P : Params) : Obj := (.mk (.type "tuple") none (.seq #[] 0) #[])
noncomputable def hG14_172 (P : Params) : Obj := (.mk .none none (.fields #[]) #[])
noncomputable def hG14_173 (P : Params) : Obj := (.mk (.type "tuple") none (.seq #[(.str "self" 1094), (.str "code" 1095), (.str "continuation" 1096), (.str "level" 1097), (.str "lno" 1098), (.str "goodlines" 1099), (.str "push_good" 1100), (.str "i" 1101), (.str "n" 1102), (.str "ch" 1103), (.str "quote" 1104), (.str "firstlno" 1105), (.str "w" 1106)] 0) #[])
noncomputable def hG14_174 (P : Params) : Obj := (.mk (.type "tuple") none (.seq #[] 0) #[])
noncomputable def hG14_175 (P : Params) : Obj := (.mk .none none (.func (.mk "_study1" "Parser._study1" (fnA (stAt 4 (clsB (stAt 14 b9)))) (.stmts (fnB (stAt 4 (clsB (stAt 14 b9))))) (scB (stAt 4 (clsB (stAt 14 b9)))) 0 [] .none .none .none .none none .none .none 0)) #[])
noncomputable def hG14_176 (P : Params) : Obj := (.mk (.type "code") none (.fields #[(.str "_study1" 1091), (.str "Parser._study1" 1092), (.str "/claim/cut.py" 1093), .int 38 0, .int 1 0, .int 0 0, .int 0 0, .int 3 0, .ref 171, .bool true, .int 276 0, .ref 172, .none, .ref 173, .ref 174, .ref 175, .int 1107 0, .int 38 0, (.str "/claim/cut.py" 1108)]) #[])
noncomputable def hG14_177 (P : Params) : Obj := (.mk (.type "function") none (.func (.mk "_study1" "Parser._study1" (fnA (stAt 4 (clsB (stAt 14 b9)))) (.stmts (fnB (stAt 4 (clsB (stAt 14 b9))))) (scB (stAt 4 (clsB (stAt 14 b9)))) 3 [] .none .none .none (.str "cpy313.idlelib.pyparse" 289) none (.ref 176) .none 0)) #[])
noncomputable def hG14_178 (P : Params) : Obj := (.mk (.type "tuple") none (.seq #[] 0) #[])
noncomputable def hG14_179 (P : Params) : Obj := (.mk .none none (.fields #[]) #[])
noncomputable def hG14_180 (P : Params) : Obj := (.mk (.type "tuple") none (.seq #[(.str "self" 1113)] 0) #[])
noncomputable def hG14_181 (P : Params) : Obj := (.mk (.type "tuple") none (.seq #[] 0) #[])
noncomputable def hG14_182 (P : Params) : Obj := (.mk .none none (.func (.mk "get_continuation_type" "Parser.get_continuation_type" (fnA (stAt 5 (clsB (stAt 14 b9)))) (.stmts (fnB (stAt 5 (clsB (stAt 14 b9))))) (scB (stAt 13 (clsB (stAt 14 b9)))) 0 [] .none .none .none .none none .none .none 0)) #[])
noncomputable def hG14_183 (P : Params) : Obj := (.mk (.type "code") none (.fields #[(.str "get_continuation_type" 1110), (.str "Parser.get_continuation_type" 1111), (.str "/claim/cut.py" 1112), .int 123 0, .int 1 0, .int 0 0, .int 0 0, .int 3 0, .ref 178, .bool true, .int 276 0, .ref 179, .none, .ref 180, .ref 181, .ref 182, .int 1114 0, .int 123 0, (.str "/claim/cut.py" 1115)]) #[])
noncomputable def hG14_184 (P : Params) : Obj := (.mk (.type "function") none (.func (.mk "get_continuation_type" "Parser.get_continuation_type" (fnA (stAt 5 (clsB (stAt 14 b9)))) (.stmts (fnB (stAt 5 (clsB (stAt 14 b9))))) (scB (stAt 13 (clsB (stAt 14 b9)))) 3 [] .none .none .none (.str "cpy313.idlelib.pyparse" 289) none (.ref 183) .none 0)) #[])
noncomputable def hG14_185 (P : Params) : Obj := (.mk (.type "tuple") none (.seq #[] 0) #[])
noncomputable def hG14_186 (P : Params) : Obj := (.mk .none none (.fields #[]) #[])
noncomputable def hG14_187 (P : Params) : Obj := (.mk (.type "tuple") none (.seq #[(.str "self" 1120), (.str "code" 1121), (.str "goodlines" 1122), (.str "i" 1123), (.str "p" 1124), (.str "q" 1125), (.str "nothing" 1126), (.str "lastch" 1127), (.str "stack" 1128), (.str "push_stack" 1129), (.str "bracketing" 1130), (.str "m" 1131), (.str "newp" 1132), (.str "ch" 1133)] 0) #[])
noncomputable def hG14_188 (P : Params) : Obj := (.mk (.type "tuple") none (.seq #[] 0) #[])
noncomputable def hG14_189 (P : Params) : Obj := (.mk .none none (.func (.mk "_study2" "Parser._study2" (fnA (stAt 6 (clsB (stAt 14 b9)))) (.stmts (fnB (stAt 6 (clsB (stAt 14 b9))))) (scB (stAt 6 (clsB (stAt 14 b9)))) 0 [] .none .none .none .none none .none .none 0)) #[])
noncomputable def hG14_190 (P : Params) : Obj := (.mk (.type "code") none (.fields #[(.str "_study2" 1117), (.str "Parser._study2" 1118), (.str "/claim/cut.py" 1119), .int 126 0, .int 1 0, .int 0 0, .int 0 0, .int 3 0, .ref 185, .bool true, .int 276 0, .ref 186, .none, .ref 187, .ref 188, .ref 189, .int 1134 0, .int 126 0, (.str "/claim/cut.py" 1135)]) #[])
noncomputable def hG14_191 (P : Params) : Obj := (.mk (.type "function") none (.func (.mk "_study2" "Parser._study2" (fnA (stAt 6 (clsB (stAt 14 b9)))) (.stmts (fnB (stAt 6 (clsB (stAt 14 b9))))) (scB (stAt 6 (clsB (stAt 14 b9)))) 3 [] .none .none .none (.str "cpy313.idlelib.pyparse" 289) none (.ref 190) .none 0)) #[])
noncomputable def hG14_192 (P : Params) : Obj := (.mk (.type "tuple") none (.seq #[] 0) #[])
noncomputable def hG14_193 (P : Params) : Obj := (.mk .none none (.fields #[]) #[])
noncomputable def hG14_194 (P : Params) : Obj := (.mk (.type "tuple") none (.seq #[(.str "self" 1140)] 0) #[])
noncomputable def hG14_195 (P : Params) : Obj := (.mk (.type "tuple") none (.seq #[] 0) #[])
noncomputable def hG14_196 (P : Params) : Obj := (.mk .none none (.func (.mk "compute_bracket_indent" "Parser.compute_bracket_indent" (fnA (stAt 7 (clsB (stAt 14 b9)))) (.stmts (fnB (stAt 7 (clsB (stAt 14 b9))))) (scB (stAt 13 (clsB (stAt 14 b9)))) 0 [] .none .none .none .none none .none .none 0)) #[])
noncomputable def hG14_197 (P : Params) : Obj := (.mk (.type "code") none (.fields #[(.str "compute_bracket_indent" 1137), (.str "Parser.compute_bracket_indent" 1138), (.str "/claim/cut.py" 1139), .int 199 0, .int 1 0, .int 0 0, .int 0 0, .int 3 0, .ref 192, .bool true, .int 276 0, .ref 193, .none, .ref 194, .ref 195, .ref 196, .int 1141 0, .int 199 0, (.str "/claim/cut.py" 1142)]) #[])
noncomputable def hG14_198 (P : Params) : Obj := (.mk (.type "function") none (.func (.mk "compute_bracket_indent" "Parser.compute_bracket_indent" (fnA (stAt 7 (clsB (stAt 14 b9)))) (.stmts (fnB (stAt 7 (clsB (stAt 14 b9))))) (scB (stAt 13 (clsB (stAt 14 b9)))) 3 [] .none .none .none (.str "cpy313.idlelib.pyparse" 289) none (.ref 197) .none 0)) #[])
noncomputable def hG14_199 (P : Params) : Obj := (.mk (.type "tuple") none (.seq #[] 0) #[])
noncomputable def hG14_200 (P : Params) : Obj := (.mk .none none (.fields #[]) #[])
noncomputable def hG14_201 (P : Params) : Obj := (.mk (.type "tuple") none (.seq #[(.str "self" 1147)] 0) #[])
noncomputable def hG14_202 (P : Params) : Obj := (.mk (.type "tuple") none (.seq #[] 0) #[])
noncomputable def hG14_203 (P : Params) : Obj := (.mk .none none (.func (.mk "get_num_lines_in_stmt" "Parser.get_num_lines_in_stmt" (fnA (stAt 8 (clsB (stAt 14 b9)))) (.stmts (fnB (stAt 8 (clsB (stAt 14 b9))))) (scB (stAt 13 (clsB (stAt 14 b9)))) 0 [] .none .none .none .none none .none .none 0)) #[])
noncomputable def hG14_204 (P : Params) : Obj := (.mk (.type "code") none (.fields #[(.str "get_num_lines_in_stmt" 1144), (.str "Parser.get_num_lines_in_stmt" 1145), (.str "/claim/cut.py" 1146), .int 202 0, .int 1 0, .int 0 0, .int 0 0, .int 3 0, .ref 199, .bool true, .int 276 0, .ref 200, .none, .ref 201, .ref 202, .ref 203, .int 1148 0, .int 202 0, (.str "/claim/cut.py" 1149)]) #[])
noncomputable def hG14_205 (P : Params) : Obj := (.mk (.type "function") none (.func (.mk "get_num_lines_in_stmt" "Parser.get_num_lines_in_stmt" (fnA (stAt 8 (clsB (stAt 14 b9)))) (.stmts (fnB (stAt 8 (clsB (stAt 14 b9))))) (scB (stAt 13 (clsB (stAt 14 b9)))) 3 [] .none .none .none (.str "cpy313.idlelib.pyparse" 289) none (.ref 204) .none 0)) #[])
noncomputable def hG14_206 (P : Params) : Obj := (.mk (.type "tuple") none (.seq #[] 0) #[])
noncomputable def hG14_207 (P : Params) : Obj := (.mk .none none (.fields #[]) #[])
noncomputable def hG14_208 (P : Params) : Obj := (.mk (.type "tuple") none (.seq #[(.str "self" 1154)] 0) #[])
noncomputable def hG14_209 (P : Params) : Obj := (.mk (.type "tuple") none (.seq #[] 0) #[])
noncomputable def hG14_210 (P : Params) : Obj := (.mk .none none (.func (.mk "compute_backslash_indent" "Parser.compute_backslash_indent" (fnA (stAt 9 (clsB (stAt 14 b9)))) (.stmts (fnB (stAt 9 (clsB (stAt 14 b9))))) (scB (stAt 13 (clsB (stAt 14 b9)))) 0 [] .none .none .none .none none .none .none 0)) #[])
noncomputable def hG14_211 (P : Params) : Obj := (.mk (.type "code") none (.fields #[(.str "compute_backslash_indent" 1151), (.str "Parser.compute_backslash_indent" 1152), (.str "/claim/cut.py" 1153), .int 205 0, .int 1 0, .int 0 0, .int 0 0, .int 3 0, .ref 206, .bool true, .int 276 0, .ref 207, .none, .ref 208, .ref 209, .ref 210, .int 1155 0, .int 205 0, (.str "/claim/cut.py" 1156)]) #[])
noncomputable def hG14_212 (P : Params) : Obj := (.mk (.type "function") none (.func (.mk "compute_backslash_indent" "Parser.compute_backslash_indent" (fnA (stAt 9 (clsB (stAt 14 b9)))) (.stmts (fnB (stAt 9 (clsB (stAt 14 b9))))) (scB (stAt 13 (clsB (stAt 14 b9)))) 3 [] .none .none .none (.str "cpy313.idlelib.pyparse" 289) none (.ref 211) .none 0)) #[])
noncomputable def hG14_213 (P : Params) : Obj := (.mk (.type "tuple") none (.seq #[] 0) #[])
noncomputable def hG14_214 (P : Params) : Obj := (.mk .none none (.fields #[]) #[])
noncomputable def hG14_215 (P : Params) : Obj := (.mk (.type "tuple") none (.seq #[(.str "self" 1161)] 0) #[])
noncomputable def hG14_216 (P : Params) : Obj := (.mk (.type "tuple") none (.seq #[] 0) #[])
noncomputable def hG14_217 (P : Params) : Obj := (.mk .none none (.func (.mk "get_base_indent_string" "Parser.get_base_indent_string" (fnA (stAt 10 (clsB (stAt 14 b9)))) (.stmts (fnB (stAt 10 (clsB (stAt 14 b9))))) (scB (stAt 13 (clsB (stAt 14 b9)))) 0 [] .none .none .none .none none .none .none 0)) #[])
noncomputable def hG14_218 (P : Params) : Obj := (.mk (.type "code") none (.fields #[(.str "get_base_indent_string" 1158), (.str "Parser.get_base_indent_string" 1159), (.str "/claim/cut.py" 1160), .int 208 0, .int 1 0, .int 0 0, .int 0 0, .int 3 0, .ref 213, .bool true, .int 276 0, .ref 214, .none, .ref 215, .ref 216, .ref 217, .int 1162 0, .int 208 0, (.str "/claim/cut.py" 1163)]) #[])
noncomputable def hG14_219 (P : Params) : Obj := (.mk (.type "function") none (.func (.mk "get_base_indent_string" "Parser.get_base_indent_string" (fnA (stAt 10 (clsB (stAt 14 b9)))) (.stmts (fnB (stAt 10 (clsB (stAt 14 b9))))) (scB (stAt 13 (clsB (stAt 14 b9)))) 3 [] .none .none .none (.str "cpy313.idlelib.pyparse" 289) none (.ref 218) .none 0)) #[])
noncomputable def hG14_220 (P : Params) : Obj := (.mk (.type "tuple") none (.seq #[] 0) #[])
noncomputable def hG14_221 (P : Params) : Obj := (.mk .none none (.fields #[]) #[])
noncomputable def hG14_222 (P : Params) : Obj := (.mk (.type "tuple") none (.seq #[(.str "self" 1168)] 0) #[])
noncomputable def hG14_223 (P : Params) : Obj := (.mk (.type "tuple") none (.seq #[] 0) #[])
noncomputable def hG14_224 (P : Params) : Obj := (.mk .none none (.func (.mk "is_block_opener" "Parser.is_block_opener" (fnA (stAt 11 (clsB (stAt 14 b9)))) (.stmts (fnB (stAt 11 (clsB (stAt 14 b9))))) (scB (stAt 13 (clsB (stAt 14 b9)))) 0 [] .none .none .none .none none .none .none 0)) #[])
noncomputable def hG14_225 (P : Params) : Obj := (.mk (.type "code") none (.fields #[(.str "is_block_opener" 1165), (.str "Parser.is_block_opener" 1166), (.str "/claim/cut.py" 1167), .int 211 0, .int 1 0, .int 0 0, .int 0 0, .int 3 0, .ref 220, .bool true, .int 276 0, .ref 221, .none, .ref 222, .ref 223, .ref 224, .int 1169 0, .int 211 0, (.str "/claim/cut.py" 1170)]) #[])
noncomputable def hG14_226 (P : Params) : Obj := (.mk (.type "function") none (.func (.mk "is_block_opener" "Parser.is_block_opener" (fnA (stAt 11 (clsB (stAt 14 b9)))) (.stmts (fnB (stAt 11 (clsB (stAt 14 b9))))) (scB (stAt 13 (clsB (stAt 14 b9)))) 3 [] .none .none .none (.str "cpy313.idlelib.pyparse" 289) none (.ref 225) .none 0)) #[])
noncomputable def hG14_227 (P : Params) : Obj := (.mk (.type "tuple") none (.seq #[] 0) #[])
noncomputable def hG14_228 (P : Params) : Obj := (.mk .none none (.fields #[]) #[])
noncomputable def hG14_229 (P : Params) : Obj := (.mk (.type "tuple") none (.seq #[(.str "self" 1175)] 0) #[])
noncomputable def hG14_230 (P : Params) : Obj := (.mk (.type "tuple") none (.seq #[] 0) #[])
noncomputable def hG14_231 (P : Params) : Obj := (.mk .none none (.func (.mk "is_block_closer" "Parser.is_block_closer" (fnA (stAt 12 (clsB (stAt 14 b9)))) (.stmts (fnB (stAt 12 (clsB (stAt 14 b9))))) (scB (stAt 13 (clsB (stAt 14 b9)))) 0 [] .none .none .none .none none .none .none 0)) #[])
noncomputable def hG14_232 (P : Params) : Obj := (.mk (.type "code") none (.fields #[(.str "is_block_closer" 1172), (.str "Parser.is_block_closer" 1173), (.str "/claim/cut.py" 1174), .int 214 0, .int 1 0, .int 0 0, .int 0 0, .int 3 0, .ref 227, .bool true, .int 276 0, .ref 228, .none, .ref 229, .ref 230, .ref 231, .int 1176 0, .int 214 0, (.str "/claim/cut.py" 1177)]) #[])
noncomputable def hG14_233 (P : Params) : Obj := (.mk (.type "function") none (.func (.mk "is_block_closer" "Parser.is_block_closer" (fnA (stAt 12 (clsB (stAt 14 b9)))) (.stmts (fnB (stAt 12 (clsB (stAt 14 b9))))) (scB (stAt 13 (clsB (stAt 14 b9)))) 3 [] .none .none .none (.str "cpy313.idlelib.pyparse" 289) none (.ref 232) .none 0)) #[])
noncomputable def hG14_234 (P : Params) : Obj := (.mk (.type "tuple") none (.seq #[] 0) #[])
noncomputable def hG14_235 (P : Params) : Obj := (.mk .none none (.fields #[]) #[])
noncomputable def hG14_236 (P : Params) : Obj := (.mk (.type "tuple") none (.seq #[(.str "self" 1182)] 0) #[])
noncomputable def hG14_237 (P : Params) : Obj := (.mk (.type "tuple") none (.seq #[] 0) #[])
noncomputable def hG14_238 (P : Params) : Obj := (.mk .none none (.func (.mk "get_last_stmt_bracketing" "Parser.get_last_stmt_bracketing" (fnA (stAt 13 (clsB (stAt 14 b9)))) (.stmts (fnB (stAt 13 (clsB (stAt 14 b9))))) (scB (stAt 13 (clsB (stAt 14 b9)))) 0 [] .none .none .none .none none .none .none 0)) #[])
noncomputable def hG14_239 (P : Params) : Obj := (.mk (.type "code") none (.fields #[(.str "get_last_stmt_bracketing" 1179), (.str "Parser.get_last_stmt_bracketing" 1180), (.str "/claim/cut.py" 1181), .int 217 0, .int 1 0, .int 0 0, .int 0 0, .int 3 0, .ref 234, .bool true, .int 276 0, .ref 235, .none, .ref 236, .ref 237, .ref 238, .int 1183 0, .int 217 0, (.str "/claim/cut.py" 1184)]) #[])
noncomputable def hG14_240 (P : Params) : Obj := (.mk (.type "function") none (.func (.mk "get_last_stmt_bracketing" "Parser.get_last_stmt_bracketing" (fnA (stAt 13 (clsB (stAt 14 b9)))) (.stmts (fnB (stAt 13 (clsB (stAt 14 b9))))) (scB (stAt 13 (clsB (stAt 14 b9)))) 3 [] .none .none .none (.str "cpy313.idlelib.pyparse" 289) none (.ref 239) .none 0)) #[])
noncomputable def hG14_241 (P : Params) : Obj := (.mk (.type "tuple") none (.seq #[(.str "code" 1186), (.str "continuation" 1187), (.str "goodlines" 1188), (.str "indentwidth" 1189), (.str "lastch" 1190), (.str "lastopenbracketpos" 1191), (.str "stmt_bracketing" 1192), (.str "stmt_end" 1193), (.str "stmt_start" 1194), (.str "study_level" 1195), (.str "tabwidth" 1196)] 0) #[])
noncomputable def hG14_242 (P : Params) : Obj := (.mk (.type "dict") none (.dict #[(.mk (PyData.keyHash P "__module__") (.str "__module__" 1053) (.str "cpy313.idlelib.pyparse" 289)), (.mk (PyData.keyHash P "__firstlineno__") (.str "__firstlineno__" 1057) (.int 21 1056)), (.mk (PyData.keyHash P "__init__") (.str "__init__" 1066) (.ref 149)), (.mk (PyData.keyHash P "set_code") (.str "set_code" 1074) (.ref 156)), (.mk (PyData.keyHash P "find_good_parse_start") (.str "find_good_parse_start" 1082) (.ref 163)), (.mk (PyData.keyHash P "set_lo") (.str "set_lo" 1090) (.ref 170)), (.mk (PyData.keyHash P "_study1") (.str "_study1" 1109) (.ref 177)), (.mk (PyData.keyHash P "get_continuation_type") (.str "get_continuation_type" 1116) (.ref 184)), (.mk (PyData.keyHash P "_study2") (.str "_study2" 1136) (.ref 191)), (.mk (PyData.keyHash P "compute_bracket_indent") (.str "compute_bracket_indent" 1143) (.ref 198)), (.mk (PyData.keyHash P "get_num_lines_in_stmt") (.str "get_num_lines_in_stmt" 1150) (.ref 205)), (.mk (PyData.keyHash P "compute_backslash_indent") (.str "compute_backslash_indent" 1157) (.ref 212)), (.mk (PyData.keyHash P "get_base_indent_string") (.str "get_base_indent_string" 1164) (.ref 219)), (.mk (PyData.keyHash P "is_block_opener") (.str "is_block_opener" 1171) (.ref 226)), (.mk (PyData.keyHash P "is_block_closer") (.str "is_block_closer" 1178) (.ref 233)), (.mk (PyData.keyHash P "get_last_stmt_bracketing") (.str "get_last_stmt_bracketing" 1185) (.ref 240)), (.mk (PyData.keyHash P "__static_attributes__") (.str "__static_attributes__" 1197) (.ref 241)), (.mk (PyData.keyHash P "__dict__") (.str "__dict__" 1199) (.ref 244)), (.mk (PyData.keyHash P "__weakref__") (.str "__weakref__" 1201) (.ref 245)), (.mk (PyData.keyHash P "__doc__") (.str "__doc__" 1202) .none)] 4) #[])
noncomputable def hG14_243 (P : Params) : Obj := (.mk (.type "type") none (.cls (.mk "Parser" [.type "object"] [.ref 243, .type "object"] 242 "Parser" true [] [] false none false)) #[none, none, (some (.str "Parser" 1046)), (some (.str "Parser" 1054)), (some (.builtin "object.__new__")), (some (.bool true))])
noncomputable def hG14_244 (P : Params) : Obj := (.mk (.type "getset_descriptor") none (.fields #[(.str "__dict__" 1198), .ref 243, .builtin "function.__dict__", .builtin "function.__dict__#set"]) #[])
noncomputable def hG14_245 (P : Params) : Obj := (.mk (.type "getset_descriptor") none (.fields #[(.str "__weakref__" 1200), .ref 243, .builtin "ExceptionGroup.__weakref__", .none]) #[])
noncomputable def hG14_246 (P : Params) : Obj := (.mk (.type "super") none (.fields #[.ref 243, .ref 243, .ref 243]) #[])
noncomputable def hG14_247 (P : Params) : Obj := (.mk (.type "builtin_function_or_method") none (.fields #[.builtin "object.__init_subclass__", .ref 243]) #[])
noncomputable def treeG14 (P : Params) : BT := (.node (h0_0 P) (.node (h0_1 P) (.node (hG14_3 P) (.node (h0_7 P) (.node (h0_15 P) (.node (hp_31 P) (.node (hG6_63 P) (.node (hG13_127 P) .nil .nil) (.node (hG14_191 P) .nil .nil)) (.node (hG11_95 P) (.node (hG14_159 P) .nil .nil) (.node (hG14_223 P) .nil .nil))) (.node (hG0_47 P) (.node (hG6_79 P) (.node (hG14_143 P) .nil .nil) (.node (hG14_207 P) .nil .nil)) (.node (hG12_111 P) (.node (hG14_175 P) .nil .nil) (.node (hG14_239 P) .nil .nil)))) (.node (h0_23 P) (.node (hG0_39 P) (.node (hG6_71 P) (.node (hG13_135 P) .nil .nil) (.node (hG14_199 P) .nil .nil)) (.node (hG11_103 P) (.node (hG14_167 P) .nil .nil) (.node (hG14_231 P) .nil .nil))) (.node (hG5_55 P) (.node (hG10_87 P) (.node (hG14_151 P) .nil .nil) (.node (hG14_215 P) .nil .nil)) (.node (hG13_119 P) (.node (hG14_183 P) .nil .nil) (.node (hG14_247 P) .nil .nil))))) (.node (h0_11 P) (.node (h0_19 P) (.node (hG0_35 P) (.node (hG6_67 P) (.node (hG13_131 P) .nil .nil) (.node (hG14_195 P) .nil .nil)) (.node (hG11_99 P) (.node (hG14_163 P) .nil .nil) (.node (hG14_227 P) .nil .nil))) (.node (hG4_51 P) (.node (hG10x0_83 P) (.node (hG14_147 P) .nil .nil) (.node (hG14_211 P) .nil .nil)) (.node (hG12_115 P) (.node (hG14_179 P) .nil .nil) (.node (hG14_243 P) .nil .nil)))) (.node (h0_27 P) (.node (hG0_43 P) (.node (hG6_75 P) (.node (hG14_139 P) .nil .nil) (.node (hG14_203 P) .nil .nil)) (.node (hG12_107 P) (.node (hG14_171 P) .nil .nil) (.node (hG14_235 P) .nil .nil))) (.node (hG6_59 P) (.node (hG11_91 P) (.node (hG14_155 P) .nil .nil) (.node (hG14_219 P) .nil .nil)) (.node (hG13_123 P) (.node (hG14_187 P) .nil .nil) .nil))))) (.node (h0_5 P) (.node (h0_9 P) (.node (h0_17 P) (.node (hG0_33 P) (.node (hG6_65 P) (.node (hG13_129 P) .nil .nil) (.node (hG14_193 P) .nil .nil)) (.node (hG11_97 P) (.node (hG14_161 P) .nil .nil) (.node (hG14_225 P) .nil .nil))) (.node (hG4_49 P) (.node (hG6_81 P) (.node (hG14_145 P) .nil .nil) (.node (hG14_209 P) .nil .nil)) (.node (hG12_113 P) (.node (hG14_177 P) .nil .nil) (.node (hG14_241 P) .nil .nil)))) (.node (h0_25 P) (.node (hG0_41 P) (.node (hG6_73 P) (.node (hG14_137 P) .nil .nil) (.node (hG14_201 P) .nil .nil)) (.node (hG12_105 P) (.node (hG14_169 P) .nil .nil) (.node (hG14_233 P) .nil .nil))) (.node (hG5_57 P) (.node (hG11_89 P) (.node (hG14_153 P) .nil .nil) (.node (hG14_217 P) .nil .nil)) (.node (hG13_121 P) (.node (hG14_185 P) .nil .nil) .nil)))) (.node (h0_13 P) (.node (h0_21 P) (.node (hG0_37 P) (.node (hG6_69 P) (.node (hG13_133 P) .nil .nil) (.node (hG14_197 P) .nil .nil)) (.node (hG11_101 P) (.node (hG14_165 P) .nil .nil) (.node (hG14_229 P) .nil .nil))) (.node (hG4_53 P) (.node (hG13_85 P) (.node (hG14_149 P) .nil .nil) (.node (hG14_213 P) .nil .nil)) (.node (hG12_117 P) (.node (hG14_181 P) .nil .nil) (.node (hG14_245 P) .nil .nil)))) (.node (hG14_29 P) (.node (hG0_45 P) (.node (hG6_77 P) (.node (hG14_141 P) .nil .nil) (.node (hG14_205 P) .nil .nil)) (.node (hG12_109 P) (.node (hG14_173 P) .nil .nil) (.node (hG14_237 P) .nil .nil))) (.node (hG6_61 P) (.node (hG11_93 P) (.node (hG14_157 P) .nil .nil) (.node (hG14_221 P) .nil .nil)) (.node (hG13_125 P) (.node (hG14_189 P) .nil .nil) .nil)))))) (.node (h0_2 P) (.node (h0_4 P) (.node (h0_8 P) (.node (h0_16 P) (.node (hG0_32 P) (.node (hG6_64 P) (.node (hG13_128 P) .nil .nil) (.node (hG14_192 P) .nil .nil)) (.node (hG11_96 P) (.node (hG14_160 P) .nil .nil) (.node (hG14_224 P) .nil .nil))) (.node (hG0_48 P) (.node (hG6_80 P) (.node (hG14_144 P) .nil .nil) (.node (hG14_208 P) .nil .nil)) (.node (hG12_112 P) (.node (hG14_176 P) .nil .nil) (.node (hG14_240 P) .nil .nil)))) (.node (h0_24 P) (.node (hG0_40 P) (.node (hG6_72 P) (.node (hG14_136 P) .nil .nil) (.node (hG14_200 P) .nil .nil)) (.node (hG12_104 P) (.node (hG14_168 P) .nil .nil) (.node (hG14_232 P) .nil .nil))) (.node (hG5_56 P) (.node (hG10_88 P) (.node (hG14_152 P) .nil .nil) (.node (hG14_216 P) .nil .nil)) (.node (hG13_120 P) (.node (hG14_184 P) .nil .nil) .nil)))) (.node (h0_12 P) (.node (h0_20 P) (.node (hG0_36 P) (.node (hG6_68 P) (.node (hG13_132 P) .nil .nil) (.node (hG14_196 P) .nil .nil)) (.node (hG11_100 P) (.node (hG14_164 P) .nil .nil) (.node (hG14_228 P) .nil .nil))) (.node (hG4_52 P) (.node (hG10x0_84 P) (.node (hG14_148 P) .nil .nil) (.node (hG14_212 P) .nil .nil)) (.node (hG12_116 P) (.node (hG14_180 P) .nil .nil) (.node (hG14_244 P) .nil .nil)))) (.node (hp_28 P) (.node (hG0_44 P) (.node (hG6_76 P) (.node (hG14_140 P) .nil .nil) (.node (hG14_204 P) .nil .nil)) (.node (hG12_108 P) (.node (hG14_172 P) .nil .nil) (.node (hG14_236 P) .nil .nil))) (.node (hG6_60 P) (.node (hG11_92 P) (.node (hG14_156 P) .nil .nil) (.node (hG14_220 P) .nil .nil)) (.node (hG13_124 P) (.node (hG14_188 P) .nil .nil) .nil))))) (.node (h0_6 P) (.node (h0_10 P) (.node (h0_18 P) (.node (hG0_34 P) (.node (hG6_66 P) (.node (hG13_130 P) .nil .nil) (.node (hG14_194 P) .nil .nil)) (.node (hG11_98 P) (.node (hG14_162 P) .nil .nil) (.node (hG14_226 P) .nil .nil))) (.node (hG4_50 P) (.node (hG10x0_82 P) (.node (hG14_146 P) .nil .nil) (.node (hG14_210 P) .nil .nil)) (.node (hG12_114 P) (.node (hG14_178 P) .nil .nil) (.node (hG14_242 P) .nil .nil)))) (.node (h0_26 P) (.node (hG0_42 P) (.node (hG6_74 P) (.node (hG14_138 P) .nil .nil) (.node (hG14_202 P) .nil .nil)) (.node (hG12_106 P) (.node (hG14_170 P) .nil .nil) (.node (hG14_234 P) .nil .nil))) (.node (hG6_58 P) (.node (hG11_90 P) (.node (hG14_154 P) .nil .nil) (.node (hG14_218 P) .nil .nil)) (.node (hG13_122 P) (.node (hG14_186 P) .nil .nil) .nil)))) (.node (h0_14 P) (.node (h0_22 P) (.node (hG0_38 P) (.node (hG6_70 P) (.node (hG13_134 P) .nil .nil) (.node (hG14_198 P) .nil .nil)) (.node (hG11_102 P) (.node (hG14_166 P) .nil .nil) (.node (hG14_230 P) .nil .nil))) (.node (hG5_54 P) (.node (hG10x128_86 P) (.node (hG14_150 P) .nil .nil) (.node (hG14_214 P) .nil .nil)) (.node (hG12_118 P) (.node (hG14_182 P) .nil .nil) (.node (hG14_246 P) .nil .nil)))) (.node (hp_30 P) (.node (hG0_46 P) (.node (hG6_78 P) (.node (hG14_142 P) .nil .nil) (.node (hG14_206 P) .nil .nil)) (.node (hG12_110 P) (.node (hG14_174 P) .nil .nil) (.node (hG14_238 P) .nil .nil))) (.node (hG6_62 P) (.node (hG11_94 P) (.node (hG14_158 P) .nil .nil) (.node (hG14_222 P) .nil .nil)) (.node (hG13_126 P) (.node (hG14_190 P) .nil .nil) .nil)))))))
theorem h_G14 (w : World) (os : OsState) : segRunT treeTable p9 w 28 ann9 1 665 (SharedT.mk (treeG13 w.params) 136 (@PySem.Life.mk [] [] [] 0 [] [] @Bool.false (@List.toArray @Nat []) [] 0 @Bool.false @Bool.false @Bool.false (0 : Int) [(2000 : Int), (10 : Int), (10 : Int)] @Bool.false 0 @Bool.true [] [] 0 @Bool.false) (Array.mk [GenState.finished, GenState.finished, GenState.finished]) (@PySem.Drawn.mk 0 0 0 0) 1046 os) (piecesOf ((b9.drop 14).take 1) e9 c9 (@PySem.Pos.mk 20 0 20 52) B9) = some (Flow.next, (SharedT.mk (treeG14 w.params) 248 (@PySem.Life.mk [] [] [] 0 [] [] @Bool.false (@List.toArray @Nat []) [] 0 @Bool.false @Bool.false @Bool.false (0 : Int) [(2000 : Int), (10 : Int), (10 : Int)] @Bool.false 0 @Bool.true [] [] 0 @Bool.false) (Array.mk [GenState.finished, GenState.finished, GenState.finished]) (@PySem.Drawn.mk 0 0 0 0) 1205 os), c9, (@PySem.Pos.mk 21 0 218 16)) := by
  (rw [show @PySem.W.segRunT = _ from PySem.W.Fast.te10110043849684766642, show treeTable = _ from PySem.W.Fast.te14364793385576792824]; kernel_rfl)
noncomputable def hG15_3 (P : Params) : Obj := (.mk (.type "dict") none (.dict #[(.mk (PyData.keyHash P "__name__") (.str "__name__" 165) (.str "law_dm0164_12" 1205)), (.mk (PyData.keyHash P "__doc__") (.str "__doc__" 166) .none), (.mk (PyData.keyHash P "__package__") (.str "__package__" 167) .none), (.mk (PyData.keyHash P "__loader__") (.str "__loader__" 168) (.builtin "__main__.__loader__#opaque")), (.mk (PyData.keyHash P "__spec__") (.str "__spec__" 169) .none), (.mk (PyData.keyHash P "__annotations__") (.str "__annotations__" 170) (.ref 6)), (.mk (PyData.keyHash P "__builtins__") (.str "__builtins__" 171) (.ref 4)), (.mk (PyData.keyHash P "__file__") (.str "__file__" 173) (.str "/claim/cut.py" 172)), (.mk (PyData.keyHash P "__cached__") (.str "__cached__" 174) .none), (.mk (PyData.keyHash P "_sre") (.str "_sre" 275) (.ref 12)), (.mk (PyData.keyHash P "_wall") (.str "_wall" 288) (.ref 38)), (.mk (PyData.keyHash P "_twin_re_2") (.str "_twin_re_2" 334) (.ref 43)), (.mk (PyData.keyHash P "_twin_re_3") (.str "_twin_re_3" 609) (.ref 48)), (.mk (PyData.keyHash P "_twin_re_6") (.str "_twin_re_6" 639) (.ref 53)), (.mk (PyData.keyHash P "C_NONE") (.str "C_NONE" 648) (.int 0 643)), (.mk (PyData.keyHash P "C_BACKSLASH") (.str "C_BACKSLASH" 649) (.int 1 644)), (.mk (PyData.keyHash P "C_STRING_FIRST_LINE") (.str "C_STRING_FIRST_LINE" 650) (.int 2 645)), (.mk (PyData.keyHash P "C_STRING_NEXT_LINES") (.str "C_STRING_NEXT_LINES" 651) (.int 3 646)), (.mk (PyData.keyHash P "C_BRACKET") (.str "C_BRACKET" 652) (.int 4 647)), (.mk (PyData.keyHash P "_junkre") (.str "_junkre" 654) (.ref 58)), (.mk (PyData.keyHash P "_match_stringre") (.str "_match_stringre" 656) (.ref 59)), (.mk (PyData.keyHash P "_chew_ordinaryre") (.str "_chew_ordinaryre" 658) (.ref 60)), (.mk (PyData.keyHash P "ParseMap") (.str "ParseMap" 686) (.ref 77)), (.mk (PyData.keyHash P "trans") (.str "trans" 948) (.ref 85)), (.mk (PyData.keyHash P "Parser") (.str "Parser" 1204) (.ref 243)), (.mk (PyData.keyHash P "_law_text") (.str "_law_text" 1212) (.ref 252)), (.mk (PyData.keyHash P "_law_marks") (.str "_law_marks" 1223) (.ref 259)), (.mk (PyData.keyHash P "_law_junk") (.str "_law_junk" 1232) (.ref 266)), (.mk (PyData.keyHash P "_law_last") (.str "_law_last" 1244) (.ref 273)), (.mk (PyData.keyHash P "law") (.str "law" 1264) (.ref 280))] 30) #[])
noncomputable def hG15_29 (P : Params) : Obj := (.mk .none none (.fields #[.int 2 0, .int 0 0, .ref 37, .int 13 0, .int 0 0, .ref 66, .int 18 0, .int 13 0, .ref 92, .int 19 0, .int 13 0, .ref 107, .int 20 0, .int 13 0, .ref 122, .int 21 0, .int 0 0, .ref 141, .int 220 0, .int 0 0, .ref 251, .int 223 0, .int 0 0, .ref 258, .int 243 0, .int 0 0, .ref 265, .int 246 0, .int 0 0, .ref 272, .int 259 0, .int 0 0, .ref 279]) #[])
noncomputable def hG15_248 (P : Params) : Obj := (.mk (.type "tuple") none (.seq #[] 0) #[])
noncomputable def hG15_249 (P : Params) : Obj := (.mk .none none (.fields #[]) #[])
noncomputable def hG15_250 (P : Params) : Obj := (.mk .none none (.func (.mk "_law_text" "_law_text" (fnA (stAt 16 b9)) (.stmts (fnB (stAt 16 b9))) (scB (stAt 16 b9)) 0 [] .none .none .none .none none .none .none 0)) #[])
noncomputable def hG15_251 (P : Params) : Obj := (.mk (.type "code") none (.fields #[(.str "_law_text" 1207), (.str "_law_text" 1208), (.str "/claim/cut.py" 1209), .int 220 0, .int 1 0, .int 0 0, .int 0 0, .int 3 0, .ref 248, .bool true, .int 276 0, .ref 249, .none, .none, .none, .ref 250, .int 1210 0, .int 220 0, (.str "/claim/cut.py" 1211)]) #[])
noncomputable def hG15_252 (P : Params) : Obj := (.mk (.type "function") none (.func (.mk "_law_text" "_law_text" (fnA (stAt 16 b9)) (.stmts (fnB (stAt 16 b9))) (scB (stAt 16 b9)) 3 [] .none .none .none (.str "law_dm0164_12" 1205) none (.ref 251) .none 0)) #[])
noncomputable def hG15_253 (P : Params) : Obj := (.mk (.type "tuple") none (.seq #[] 0) #[])
noncomputable def hG15_254 (P : Params) : Obj := (.mk .none none (.fields #[]) #[])
noncomputable def hG15_255 (P : Params) : Obj := (.mk (.type "tuple") none (.seq #[(.str "text" 1216), (.str "marks" 1217), (.str "k" 1218), (.str "e" 1219), (.str "quote" 1220)] 0) #[])
noncomputable def hG15_256 (P : Params) : Obj := (.mk (.type "tuple") none (.seq #[] 0) #[])
noncomputable def hG15_257 (P : Params) : Obj := (.mk .none none (.func (.mk "_law_marks" "_law_marks" (fnA (stAt 17 b9)) (.stmts (fnB (stAt 17 b9))) (scB (stAt 17 b9)) 0 [] .none .none .none .none none .none .none 0)) #[])
noncomputable def hG15_258 (P : Params) : Obj := (.mk (.type "code") none (.fields #[(.str "_law_marks" 1213), (.str "_law_marks" 1214), (.str "/claim/cut.py" 1215), .int 223 0, .int 1 0, .int 0 0, .int 0 0, .int 3 0, .ref 253, .bool true, .int 276 0, .ref 254, .none, .ref 255, .ref 256, .ref 257, .int 1221 0, .int 223 0, (.str "/claim/cut.py" 1222)]) #[])
noncomputable def hG15_259 (P : Params) : Obj := (.mk (.type "function") none (.func (.mk "_law_marks" "_law_marks" (fnA (stAt 17 b9)) (.stmts (fnB (stAt 17 b9))) (scB (stAt 17 b9)) 3 [] .none .none .none (.str "law_dm0164_12" 1205) none (.ref 258) .none 0)) #[])
noncomputable def hG15_260 (P : Params) : Obj := (.mk (.type "tuple") none (.seq #[] 0) #[])
noncomputable def hG15_261 (P : Params) : Obj := (.mk .none none (.fields #[]) #[])
noncomputable def hG15_262 (P : Params) : Obj := (.mk (.type "tuple") none (.seq #[(.str "text" 1227), (.str "k" 1228), (.str "line" 1229)] 0) #[])
noncomputable def hG15_263 (P : Params) : Obj := (.mk (.type "tuple") none (.seq #[] 0) #[])
noncomputable def hG15_264 (P : Params) : Obj := (.mk .none none (.func (.mk "_law_junk" "_law_junk" (fnA (stAt 18 b9)) (.stmts (fnB (stAt 18 b9))) (scB (stAt 18 b9)) 0 [] .none .none .none .none none .none .none 0)) #[])
noncomputable def hG15_265 (P : Params) : Obj := (.mk (.type "code") none (.fields #[(.str "_law_junk" 1224), (.str "_law_junk" 1225), (.str "/claim/cut.py" 1226), .int 243 0, .int 2 0, .int 0 0, .int 0 0, .int 3 0, .ref 260, .bool true, .int 276 0, .ref 261, .none, .ref 262, .ref 263, .ref 264, .int 1230 0, .int 243 0, (.str "/claim/cut.py" 1231)]) #[])
noncomputable def hG15_266 (P : Params) : Obj := (.mk (.type "function") none (.func (.mk "_law_junk" "_law_junk" (fnA (stAt 18 b9)) (.stmts (fnB (stAt 18 b9))) (scB (stAt 18 b9)) 3 [] .none .none .none (.str "law_dm0164_12" 1205) none (.ref 265) .none 0)) #[])
noncomputable def hG15_267 (P : Params) : Obj := (.mk (.type "tuple") none (.seq #[] 0) #[])
noncomputable def hG15_268 (P : Params) : Obj := (.mk .none none (.fields #[]) #[])
noncomputable def hG15_269 (P : Params) : Obj := (.mk (.type "tuple") none (.seq #[(.str "text" 1236), (.str "last" 1237), (.str "row" 1238), (.str "depth" 1239), (.str "k" 1240), (.str "e" 1241)] 0) #[])
noncomputable def hG15_270 (P : Params) : Obj := (.mk (.type "tuple") none (.seq #[] 0) #[])
noncomputable def hG15_271 (P : Params) : Obj := (.mk .none none (.func (.mk "_law_last" "_law_last" (fnA (stAt 19 b9)) (.stmts (fnB (stAt 19 b9))) (scB (stAt 19 b9)) 0 [] .none .none .none .none none .none .none 0)) #[])
noncomputable def hG15_272 (P : Params) : Obj := (.mk (.type "code") none (.fields #[(.str "_law_last" 1233), (.str "_law_last" 1234), (.str "/claim/cut.py" 1235), .int 246 0, .int 1 0, .int 0 0, .int 0 0, .int 3 0, .ref 267, .bool true, .int 276 0, .ref 268, .none, .ref 269, .ref 270, .ref 271, .int 1242 0, .int 246 0, (.str "/claim/cut.py" 1243)]) #[])
noncomputable def hG15_273 (P : Params) : Obj := (.mk (.type "function") none (.func (.mk "_law_last" "_law_last" (fnA (stAt 19 b9)) (.stmts (fnB (stAt 19 b9))) (scB (stAt 19 b9)) 3 [] .none .none .none (.str "law_dm0164_12" 1205) none (.ref 272) .none 0)) #[])
noncomputable def hG15_274 (P : Params) : Obj := (.mk (.type "tuple") none (.seq #[] 0) #[])
noncomputable def hG15_275 (P : Params) : Obj := (.mk .none none (.fields #[]) #[])
noncomputable def hG15_276 (P : Params) : Obj := (.mk (.type "tuple") none (.seq #[(.str "script" 1248), (.str "text" 1249), (.str "marks" 1250), (.str "start" 1251), (.str "end" 1252), (.str "rows" 1253), (.str "depth" 1254), (.str "k" 1255), (.str "e" 1256), (.str "lastch" 1257), (.str "opened" 1258), (.str "closed" 1259), (.str "parser" 1260), (.str "told" 1261)] 0) #[])
noncomputable def hG15_277 (P : Params) : Obj := (.mk (.type "tuple") none (.seq #[] 0) #[])
noncomputable def hG15_278 (P : Params) : Obj := (.mk .none none (.func (.mk "law" "law" (fnA (stAt 20 b9)) (.stmts (fnB (stAt 20 b9))) (scB (stAt 20 b9)) 0 [] .none .none .none .none none .none .none 0)) #[])
noncomputable def hG15_279 (P : Params) : Obj := (.mk (.type "code") none (.fields #[(.str "law" 1245), (.str "law" 1246), (.str "/claim/cut.py" 1247), .int 259 0, .int 1 0, .int 0 0, .int 0 0, .int 3 0, .ref 274, .bool true, .int 276 0, .ref 275, .none, .ref 276, .ref 277, .ref 278, .int 1262 0, .int 259 0, (.str "/claim/cut.py" 1263)]) #[])
noncomputable def hG15_280 (P : Params) : Obj := (.mk (.type "function") none (.func (.mk "law" "law" (fnA (stAt 20 b9)) (.stmts (fnB (stAt 20 b9))) (scB (stAt 20 b9)) 3 [] .none .none .none (.str "law_dm0164_12" 1205) none (.ref 279) .none 0)) #[])
noncomputable def treeG15 (P : Params) : BT := (.node (h0_0 P) (.node (h0_1 P) (.node (hG15_3 P) (.node (h0_7 P) (.node (h0_15 P) (.node (hp_31 P) (.node (hG6_63 P) (.node (hG13_127 P) (.node (hG15_255 P) .nil .nil) .nil) (.node (hG14_191 P) .nil .nil)) (.node (hG11_95 P) (.node (hG14_159 P) .nil .nil) (.node (hG14_223 P) .nil .nil))) (.node (hG0_47 P) (.node (hG6_79 P) (.node (hG14_143 P) (.node (hG15_271 P) .nil .nil) .nil) (.node (hG14_207 P) .nil .nil)) (.node (hG12_111 P) (.node (hG14_175 P) .nil .nil) (.node (hG14_239 P) .nil .nil)))) (.node (h0_23 P) (.node (hG0_39 P) (.node (hG6_71 P) (.node (hG13_135 P) (.node (hG15_263 P) .nil .nil) .nil) (.node (hG14_199 P) .nil .nil)) (.node (hG11_103 P) (.node (hG14_167 P) .nil .nil) (.node (hG14_231 P) .nil .nil))) (.node (hG5_55 P) (.node (hG10_87 P) (.node (hG14_151 P) (.node (hG15_279 P) .nil .nil) .nil) (.node (hG14_215 P) .nil .nil)) (.node (hG13_119 P) (.node (hG14_183 P) .nil .nil) (.node (hG14_247 P) .nil .nil))))) (.node (h0_11 P) (.node (h0_19 P) (.node (hG0_35 P) (.node (hG6_67 P) (.node (hG13_131 P) (.node (hG15_259 P) .nil .nil) .nil) (.node (hG14_195 P) .nil .nil)) (.node (hG11_99 P) (.node (hG14_163 P) .nil .nil) (.node (hG14_227 P) .nil .nil))) (.node (hG4_51 P) (.node (hG10x0_83 P) (.node (hG14_147 P) (.node (hG15_275 P) .nil .nil) .nil) (.node (hG14_211 P) .nil .nil)) (.node (hG12_115 P) (.node (hG14_179 P) .nil .nil) (.node (hG14_243 P) .nil .nil)))) (.node (h0_27 P) (.node (hG0_43 P) (.node (hG6_75 P) (.node (hG14_139 P) (.node (hG15_267 P) .nil .nil) .nil) (.node (hG14_203 P) .nil .nil)) (.node (hG12_107 P) (.node (hG14_171 P) .nil .nil) (.node (hG14_235 P) .nil .nil))) (.node (hG6_59 P) (.node (hG11_91 P) (.node (hG14_155 P) .nil .nil) (.node (hG14_219 P) .nil .nil)) (.node (hG13_123 P) (.node (hG14_187 P) .nil .nil) (.node (hG15_251 P) .nil .nil)))))) (.node (h0_5 P) (.node (h0_9 P) (.node (h0_17 P) (.node (hG0_33 P) (.node (hG6_65 P) (.node (hG13_129 P) (.node (hG15_257 P) .nil .nil) .nil) (.node (hG14_193 P) .nil .nil)) (.node (hG11_97 P) (.node (hG14_161 P) .nil .nil) (.node (hG14_225 P) .nil .nil))) (.node (hG4_49 P) (.node (hG6_81 P) (.node (hG14_145 P) (.node (hG15_273 P) .nil .nil) .nil) (.node (hG14_209 P) .nil .nil)) (.node (hG12_113 P) (.node (hG14_177 P) .nil .nil) (.node (hG14_241 P) .nil .nil)))) (.node (h0_25 P) (.node (hG0_41 P) (.node (hG6_73 P) (.node (hG14_137 P) (.node (hG15_265 P) .nil .nil) .nil) (.node (hG14_201 P) .nil .nil)) (.node (hG12_105 P) (.node (hG14_169 P) .nil .nil) (.node (hG14_233 P) .nil .nil))) (.node (hG5_57 P) (.node (hG11_89 P) (.node (hG14_153 P) .nil .nil) (.node (hG14_217 P) .nil .nil)) (.node (hG13_121 P) (.node (hG14_185 P) .nil .nil) (.node (hG15_249 P) .nil .nil))))) (.node (h0_13 P) (.node (h0_21 P) (.node (hG0_37 P) (.node (hG6_69 P) (.node (hG13_133 P) (.node (hG15_261 P) .nil .nil) .nil) (.node (hG14_197 P) .nil .nil)) (.node (hG11_101 P) (.node (hG14_165 P) .nil .nil) (.node (hG14_229 P) .nil .nil))) (.node (hG4_53 P) (.node (hG13_85 P) (.node (hG14_149 P) (.node (hG15_277 P) .nil .nil) .nil) (.node (hG14_213 P) .nil .nil)) (.node (hG12_117 P) (.node (hG14_181 P) .nil .nil) (.node (hG14_245 P) .nil .nil)))) (.node (hG15_29 P) (.node (hG0_45 P) (.node (hG6_77 P) (.node (hG14_141 P) (.node (hG15_269 P) .nil .nil) .nil) (.node (hG14_205 P) .nil .nil)) (.node (hG12_109 P) (.node (hG14_173 P) .nil .nil) (.node (hG14_237 P) .nil .nil))) (.node (hG6_61 P) (.node (hG11_93 P) (.node (hG14_157 P) .nil .nil) (.node (hG14_221 P) .nil .nil)) (.node (hG13_125 P) (.node (hG14_189 P) .nil .nil) (.node (hG15_253 P) .nil .nil))))))) (.node (h0_2 P) (.node (h0_4 P) (.node (h0_8 P) (.node (h0_16 P) (.node (hG0_32 P) (.node (hG6_64 P) (.node (hG13_128 P) (.node (hG15_256 P) .nil .nil) .nil) (.node (hG14_192 P) .nil .nil)) (.node (hG11_96 P) (.node (hG14_160 P) .nil .nil) (.node (hG14_224 P) .nil .nil))) (.node (hG0_48 P) (.node (hG6_80 P) (.node (hG14_144 P) (.node (hG15_272 P) .nil .nil) .nil) (.node (hG14_208 P) .nil .nil)) (.node (hG12_112 P) (.node (hG14_176 P) .nil .nil) (.node (hG14_240 P) .nil .nil)))) (.node (h0_24 P) (.node (hG0_40 P) (.node (hG6_72 P) (.node (hG14_136 P) (.node (hG15_264 P) .nil .nil) .nil) (.node (hG14_200 P) .nil .nil)) (.node (hG12_104 P) (.node (hG14_168 P) .nil .nil) (.node (hG14_232 P) .nil .nil))) (.node (hG5_56 P) (.node (hG10_88 P) (.node (hG14_152 P) (.node (hG15_280 P) .nil .nil) .nil) (.node (hG14_216 P) .nil .nil)) (.node (hG13_120 P) (.node (hG14_184 P) .nil .nil) (.node (hG15_248 P) .nil .nil))))) (.node (h0_12 P) (.node (h0_20 P) (.node (hG0_36 P) (.node (hG6_68 P) (.node (hG13_132 P) (.node (hG15_260 P) .nil .nil) .nil) (.node (hG14_196 P) .nil .nil)) (.node (hG11_100 P) (.node (hG14_164 P) .nil .nil) (.node (hG14_228 P) .nil .nil))) (.node (hG4_52 P) (.node (hG10x0_84 P) (.node (hG14_148 P) (.node (hG15_276 P) .nil .nil) .nil) (.node (hG14_212 P) .nil .nil)) (.node (hG12_116 P) (.node (hG14_180 P) .nil .nil) (.node (hG14_244 P) .nil .nil)))) (.node (hp_28 P) (.node (hG0_44 P) (.node (hG6_76 P) (.node (hG14_140 P) (.node (hG15_268 P) .nil .nil) .nil) (.node (hG14_204 P) .nil .nil)) (.node (hG12_108 P) (.node (hG14_172 P) .nil .nil) (.node (hG14_236 P) .nil .nil))) (.node (hG6_60 P) (.node (hG11_92 P) (.node (hG14_156 P) .nil .nil) (.node (hG14_220 P) .nil .nil)) (.node (hG13_124 P) (.node (hG14_188 P) .nil .nil) (.node (hG15_252 P) .nil .nil)))))) (.node (h0_6 P) (.node (h0_10 P) (.node (h0_18 P) (.node (hG0_34 P) (.node (hG6_66 P) (.node (hG13_130 P) (.node (hG15_258 P) .nil .nil) .nil) (.node (hG14_194 P) .nil .nil)) (.node (hG11_98 P) (.node (hG14_162 P) .nil .nil) (.node (hG14_226 P) .nil .nil))) (.node (hG4_50 P) (.node (hG10x0_82 P) (.node (hG14_146 P) (.node (hG15_274 P) .nil .nil) .nil) (.node (hG14_210 P) .nil .nil)) (.node (hG12_114 P) (.node (hG14_178 P) .nil .nil) (.node (hG14_242 P) .nil .nil)))) (.node (h0_26 P) (.node (hG0_42 P) (.node (hG6_74 P) (.node (hG14_138 P) (.node (hG15_266 P) .nil .nil) .nil) (.node (hG14_202 P) .nil .nil)) (.node (hG12_106 P) (.node (hG14_170 P) .nil .nil) (.node (hG14_234 P) .nil .nil))) (.node (hG6_58 P) (.node (hG11_90 P) (.node (hG14_154 P) .nil .nil) (.node (hG14_218 P) .nil .nil)) (.node (hG13_122 P) (.node (hG14_186 P) .nil .nil) (.node (hG15_250 P) .nil .nil))))) (.node (h0_14 P) (.node (h0_22 P) (.node (hG0_38 P) (.node (hG6_70 P) (.node (hG13_134 P) (.node (hG15_262 P) .nil .nil) .nil) (.node (hG14_198 P) .nil .nil)) (.node (hG11_102 P) (.node (hG14_166 P) .nil .nil) (.node (hG14_230 P) .nil .nil))) (.node (hG5_54 P) (.node (hG10x128_86 P) (.node (hG14_150 P) (.node (hG15_278 P) .nil .nil) .nil) (.node (hG14_214 P) .nil .nil)) (.node (hG12_118 P) (.node (hG14_182 P) .nil .nil) (.node (hG14_246 P) .nil .nil)))) (.node (hp_30 P) (.node (hG0_46 P) (.node (hG6_78 P) (.node (hG14_142 P) (.node (hG15_270 P) .nil .nil) .nil) (.node (hG14_206 P) .nil .nil)) (.node (hG12_110 P) (.node (hG14_174 P) .nil .nil) (.node (hG14_238 P) .nil .nil))) (.node (hG6_62 P) (.node (hG11_94 P) (.node (hG14_158 P) .nil .nil) (.node (hG14_222 P) .nil .nil)) (.node (hG13_126 P) (.node (hG14_190 P) .nil .nil) (.node (hG15_254 P) .nil .nil))))))))
theorem h_G15 (w : World) (os : OsState) : segRunT treeTable p9 w 28 ann9 1 176 (SharedT.mk (treeG14 w.params) 248 (@PySem.Life.mk [] [] [] 0 [] [] @Bool.false (@List.toArray @Nat []) [] 0 @Bool.false @Bool.false @Bool.false (0 : Int) [(2000 : Int), (10 : Int), (10 : Int)] @Bool.false 0 @Bool.true [] [] 0 @Bool.false) (Array.mk [GenState.finished, GenState.finished, GenState.finished]) (@PySem.Drawn.mk 0 0 0 0) 1205 os) (piecesOf ((b9.drop 15).take 6) e9 c9 (@PySem.Pos.mk 21 0 218 16) B9) = some (Flow.next, (SharedT.mk (treeG15 w.params) 281 (@PySem.Life.mk [] [] [] 0 [] [] @Bool.false (@List.toArray @Nat []) [] 0 @Bool.false @Bool.false @Bool.false (0 : Int) [(2000 : Int), (10 : Int), (10 : Int)] @Bool.false 0 @Bool.true [] [] 0 @Bool.false) (Array.mk [GenState.finished, GenState.finished, GenState.finished]) (@PySem.Drawn.mk 0 0 0 0) 1265 os), c9, (@PySem.Pos.mk 259 0 289 60)) := by
  (rw [show @PySem.W.segRunT = _ from PySem.W.Fast.te10110043849684766642, show treeTable = _ from PySem.W.Fast.te14364793385576792824]; kernel_rfl)
noncomputable def heapF (P : Params) : Heap := Heap.mk (Array.mk [h0_0 P, h0_1 P, h0_2 P, hG15_3 P, h0_4 P, h0_5 P, h0_6 P, h0_7 P, h0_8 P, h0_9 P, h0_10 P, h0_11 P, h0_12 P, h0_13 P, h0_14 P, h0_15 P, h0_16 P, h0_17 P, h0_18 P, h0_19 P, h0_20 P, h0_21 P, h0_22 P, h0_23 P, h0_24 P, h0_25 P, h0_26 P, h0_27 P, hp_28 P, hG15_29 P, hp_30 P, hp_31 P, hG0_32 P, hG0_33 P, hG0_34 P, hG0_35 P, hG0_36 P, hG0_37 P, hG0_38 P, hG0_39 P, hG0_40 P, hG0_41 P, hG0_42 P, hG0_43 P, hG0_44 P, hG0_45 P, hG0_46 P, hG0_47 P, hG0_48 P, hG4_49 P, hG4_50 P, hG4_51 P, hG4_52 P, hG4_53 P, hG5_54 P, hG5_55 P, hG5_56 P, hG5_57 P, hG6_58 P, hG6_59 P, hG6_60 P, hG6_61 P, hG6_62 P, hG6_63 P, hG6_64 P, hG6_65 P, hG6_66 P, hG6_67 P, hG6_68 P, hG6_69 P, hG6_70 P, hG6_71 P, hG6_72 P, hG6_73 P, hG6_74 P, hG6_75 P, hG6_76 P, hG6_77 P, hG6_78 P, hG6_79 P, hG6_80 P, hG6_81 P, hG10x0_82 P, hG10x0_83 P, hG10x0_84 P, hG13_85 P, hG10x128_86 P, hG10_87 P, hG10_88 P, hG11_89 P, hG11_90 P, hG11_91 P, hG11_92 P, hG11_93 P, hG11_94 P, hG11_95 P, hG11_96 P, hG11_97 P, hG11_98 P, hG11_99 P, hG11_100 P, hG11_101 P, hG11_102 P, hG11_103 P, hG12_104 P, hG12_105 P, hG12_106 P, hG12_107 P, hG12_108 P, hG12_109 P, hG12_110 P, hG12_111 P, hG12_112 P, hG12_113 P, hG12_114 P, hG12_115 P, hG12_116 P, hG12_117 P, hG12_118 P, hG13_119 P, hG13_120 P, hG13_121 P, hG13_122 P, hG13_123 P, hG13_124 P, hG13_125 P, hG13_126 P, hG13_127 P, hG13_128 P, hG13_129 P, hG13_130 P, hG13_131 P, hG13_132 P, hG13_133 P, hG13_134 P, hG13_135 P, hG14_136 P, hG14_137 P, hG14_138 P, hG14_139 P, hG14_140 P, hG14_141 P, hG14_142 P, hG14_143 P, hG14_144 P, hG14_145 P, hG14_146 P, hG14_147 P, hG14_148 P, hG14_149 P, hG14_150 P, hG14_151 P, hG14_152 P, hG14_153 P, hG14_154 P, hG14_155 P, hG14_156 P, hG14_157 P, hG14_158 P, hG14_159 P, hG14_160 P, hG14_161 P, hG14_162 P, hG14_163 P, hG14_164 P, hG14_165 P, hG14_166 P, hG14_167 P, hG14_168 P, hG14_169 P, hG14_170 P, hG14_171 P, hG14_172 P, hG14_173 P, hG14_174 P, hG14_175 P, hG14_176 P, hG14_177 P, hG14_178 P, hG14_179 P, hG14_180 P, hG14_181 P, hG14_182 P, hG14_183 P, hG14_184 P, hG14_185 P, hG14_186 P, hG14_187 P, hG14_188 P, hG14_189 P, hG14_190 P, hG14_191 P, hG14_192 P, hG14_193 P, hG14_194 P, hG14_195 P, hG14_196 P, hG14_197 P, hG14_198 P, hG14_199 P, hG14_200 P, hG14_201 P, hG14_202 P, hG14_203 P, hG14_204 P, hG14_205 P, hG14_206 P, hG14_207 P, hG14_208 P, hG14_209 P, hG14_210 P, hG14_211 P, hG14_212 P, hG14_213 P, hG14_214 P, hG14_215 P, hG14_216 P, hG14_217 P, hG14_218 P, hG14_219 P, hG14_220 P, hG14_221 P, hG14_222 P, hG14_223 P, hG14_224 P, hG14_225 P, hG14_226 P, hG14_227 P, hG14_228 P, hG14_229 P, hG14_230 P, hG14_231 P, hG14_232 P, hG14_233 P, hG14_234 P, hG14_235 P, hG14_236 P, hG14_237 P, hG14_238 P, hG14_239 P, hG14_240 P, hG14_241 P, hG14_242 P, hG14_243 P, hG14_244 P, hG14_245 P, hG14_246 P, hG14_247 P, hG15_248 P, hG15_249 P, hG15_250 P, hG15_251 P, hG15_252 P, hG15_253 P, hG15_254 P, hG15_255 P, hG15_256 P, hG15_257 P, hG15_258 P, hG15_259 P, hG15_260 P, hG15_261 P, hG15_262 P, hG15_263 P, hG15_264 P, hG15_265 P, hG15_266 P, hG15_267 P, hG15_268 P, hG15_269 P, hG15_270 P, hG15_271 P, hG15_272 P, hG15_273 P, hG15_274 P, hG15_275 P, hG15_276 P, hG15_277 P, hG15_278 P, hG15_279 P, hG15_280 P]) (@PySem.Life.mk [] [] [] 0 [] [] @Bool.false (@List.toArray @Nat []) [] 0 @Bool.false @Bool.false @Bool.false (0 : Int) [(2000 : Int), (10 : Int), (10 : Int)] @Bool.false 0 @Bool.true [] [] 0 @Bool.false)
theorem h_fin (w : World) (os : OsState) : topRun treeTable p9 w 28 ann9 2 (SharedT.mk (treeG15 w.params) 281 (@PySem.Life.mk [] [] [] 0 [] [] @Bool.false (@List.toArray @Nat []) [] 0 @Bool.false @Bool.false @Bool.false (0 : Int) [(2000 : Int), (10 : Int), (10 : Int)] @Bool.false 0 @Bool.true [] [] 0 @Bool.false) (Array.mk [GenState.finished, GenState.finished, GenState.finished]) (@PySem.Drawn.mk 0 0 0 0) 1265 os).abs (Thread.mk (doneF Flow.next) c9 (@PySem.Pos.mk 259 0 289 60) B9) = some (Shared.mk (heapF w.params) (Array.mk [GenState.finished, GenState.finished, GenState.finished]) (@PySem.Drawn.mk 0 0 0 0) 1265 os) := by
  rw [show @topRun = _ from PySem.W.Fast.te14082659384304107361, show treeTable = _ from PySem.W.Fast.te14364793385576792824]
  kernel_rfl
theorem h_bd : b9 = (((b9.drop 0).take 4) ++ (((b9.drop 4).take 1) ++ (((b9.drop 5).take 1) ++ (((b9.drop 6).take 4) ++ (((b9.drop 10).take 1) ++ (((b9.drop 11).take 1) ++ (((b9.drop 12).take 1) ++ (((b9.drop 13).take 1) ++ (((b9.drop 14).take 1) ++ (((b9.drop 15).take 6) ++ [])))))))))) := by kernel_rfl
theorem h_chain (w : World) (os : OsState) : topRun treeTable p9 w 28 ann9 (444 + (74 + (152 + (307 + ((113 + (640 + (640 + (640 + (640 + (640 + (640 + (640 + (640 + 23))))))))) + (367 + (367 + (522 + (665 + (176 + 2)))))))))) (SharedT.mk (treeK w.params) 32 (@PySem.Life.mk [] [] [] 0 [] [] @Bool.false (@List.toArray @Nat []) [] 0 @Bool.false @Bool.false @Bool.false (0 : Int) [(2000 : Int), (10 : Int), (10 : Int)] @Bool.false 0 @Bool.true [] [] 0 @Bool.false) (Array.mk []) (@PySem.Drawn.mk 0 0 0 0) 282 os).abs (restOf (((b9.drop 0).take 4) ++ (((b9.drop 4).take 1) ++ (((b9.drop 5).take 1) ++ (((b9.drop 6).take 4) ++ (((b9.drop 10).take 1) ++ (((b9.drop 11).take 1) ++ (((b9.drop 12).take 1) ++ (((b9.drop 13).take 1) ++ (((b9.drop 14).take 1) ++ (((b9.drop 15).take 6) ++ [])))))))))) e9 c9 (@PySem.Pos.mk 0 0 0 0) B9) = some (Shared.mk (heapF w.params) (Array.mk [GenState.finished, GenState.finished, GenState.finished]) (@PySem.Drawn.mk 0 0 0 0) 1265 os) :=
  (piece_app (segRun_of (h_G0 w os)) (piece_app (segRun_of (h_G4 w os)) (piece_app (segRun_of (h_G5 w os)) (piece_app (segRun_of (h_G6 w os)) (piece_app (seg_go (segGo_of (h_G10x0 w os)) (seg_go (segGo_of (h_G10x16 w os (stk w os))) (seg_go (segGo_of (h_G10x32 w os (stk w os))) (seg_go (segGo_of (h_G10x48 w os (stk w os))) (seg_go (segGo_of (h_G10x64 w os (stk w os))) (seg_go (segGo_of (h_G10x80 w os (stk w os))) (seg_go (segGo_of (h_G10x96 w os (stk w os))) (seg_go (segGo_of (h_G10x112 w os (stk w os))) (seg_go (segGo_of (h_G10x128 w os (stk w os))) (segRun_of (h_G10 w os))))))))))) (piece_app (segRun_of (h_G11 w os)) (piece_app (segRun_of (h_G12 w os)) (piece_app (segRun_of (h_G13 w os)) (piece_app (segRun_of (h_G14 w os)) (piece_app (segRun_of (h_G15 w os)) (h_fin w os)))))))))))
theorem h_run (w : World) (os : OsState) : topRun treeTable p9 w 28 ann9 (12 + (1 + (444 + (74 + (152 + (307 + ((113 + (640 + (640 + (640 + (640 + (640 + (640 + (640 + (640 + 23))))))))) + (367 + (367 + (522 + (665 + (176 + 2)))))))))))) (Shared.mk (heap0 w.params) (Array.mk []) (@PySem.Drawn.mk 0 0 0 0) 276 os) (topStub p9) = some (Shared.mk (heapF w.params) (Array.mk [GenState.finished, GenState.finished, GenState.finished]) (@PySem.Drawn.mk 0 0 0 0) 1265 os) :=
  go_top (h_pre w os) (piece_block (h_block w os) ((congrArg (fun l => topRun treeTable p9 w 28 ann9 (444 + (74 + (152 + (307 + ((113 + (640 + (640 + (640 + (640 + (640 + (640 + (640 + (640 + 23))))))))) + (367 + (367 + (522 + (665 + (176 + 2)))))))))) (SharedT.mk (treeK w.params) 32 (@PySem.Life.mk [] [] [] 0 [] [] @Bool.false (@List.toArray @Nat []) [] 0 @Bool.false @Bool.false @Bool.false (0 : Int) [(2000 : Int), (10 : Int), (10 : Int)] @Bool.false 0 @Bool.true [] [] 0 @Bool.false) (Array.mk []) (@PySem.Drawn.mk 0 0 0 0) 282 os).abs (restOf l e9 c9 (@PySem.Pos.mk 0 0 0 0) B9) = some (Shared.mk (heapF w.params) (Array.mk [GenState.finished, GenState.finished, GenState.finished]) (@PySem.Drawn.mk 0 0 0 0) 1265 os)) h_bd).mpr (h_chain w os)))
noncomputable def view9 : Program := { p9 with main := { p9.main with body := [stAt 0 p9.main.body, stAt 1 p9.main.body, stAt 3 p9.main.body, stAt 4 p9.main.body, stAt 5 p9.main.body, stAt 6 p9.main.body, stAt 7 p9.main.body, stAt 8 p9.main.body, stAt 9 p9.main.body, stAt 10 p9.main.body, stAt 11 p9.main.body, stAt 15 p9.main.body, stAt 17 p9.main.body, stAt 18 p9.main.body, stAt 19 p9.main.body, stAt 20 p9.main.body, stAt 21 p9.main.body] } }
noncomputable def loose9 : List Str := [(PySem.Str.ofString "_twin_re_2"), (PySem.Str.ofString "_twin_re_3"), (PySem.Str.ofString "_twin_re_6"), (PySem.Str.ofString "C_NONE"), (PySem.Str.ofString "C_BACKSLASH"), (PySem.Str.ofString "C_STRING_FIRST_LINE"), (PySem.Str.ofString "C_STRING_NEXT_LINES"), (PySem.Str.ofString "C_BRACKET"), (PySem.Str.ofString "_junkre"), (PySem.Str.ofString "_match_stringre"), (PySem.Str.ofString "_chew_ordinaryre"), (PySem.Str.ofString "trans")]
noncomputable def lv9 : List (Str × WData) := [((PySem.Str.ofString "C_NONE"), (@PySem.W.WData.int (0 : Int))), ((PySem.Str.ofString "C_BACKSLASH"), (@PySem.W.WData.int (1 : Int))), ((PySem.Str.ofString "C_STRING_FIRST_LINE"), (@PySem.W.WData.int (2 : Int))), ((PySem.Str.ofString "C_STRING_NEXT_LINES"), (@PySem.W.WData.int (3 : Int))), ((PySem.Str.ofString "C_BRACKET"), (@PySem.W.WData.int (4 : Int)))]
noncomputable abbrev N9 : Nat := 16766
noncomputable def K9 (P : Params) : Frag := [(0, h0_0 P), (1, h0_1 P), (2, h0_2 P), (3, hG15_3 P), (4, h0_4 P), (5, h0_5 P), (6, h0_6 P), (7, h0_7 P), (8, h0_8 P), (9, h0_9 P), (10, h0_10 P), (11, h0_11 P), (12, h0_12 P), (13, h0_13 P), (14, h0_14 P), (15, h0_15 P), (16, h0_16 P), (17, h0_17 P), (18, h0_18 P), (19, h0_19 P), (20, h0_20 P), (21, h0_21 P), (22, h0_22 P), (23, h0_23 P), (24, h0_24 P), (25, h0_25 P), (26, h0_26 P), (27, h0_27 P), (28, hp_28 P), (29, hG15_29 P), (30, hp_30 P), (31, hp_31 P), (32, hG0_32 P), (33, hG0_33 P), (34, hG0_34 P), (35, hG0_35 P), (36, hG0_36 P), (37, hG0_37 P), (38, hG0_38 P), (39, hG0_39 P), (40, hG0_40 P), (41, hG0_41 P), (42, hG0_42 P), (43, hG0_43 P), (44, hG0_44 P), (45, hG0_45 P), (46, hG0_46 P), (47, hG0_47 P), (48, hG0_48 P), (49, hG4_49 P), (50, hG4_50 P), (51, hG4_51 P), (52, hG4_52 P), (53, hG4_53 P), (54, hG5_54 P), (55, hG5_55 P), (56, hG5_56 P), (57, hG5_57 P), (58, hG6_58 P), (59, hG6_59 P), (60, hG6_60 P), (61, hG6_61 P), (62, hG6_62 P), (63, hG6_63 P), (64, hG6_64 P), (65, hG6_65 P), (66, hG6_66 P), (67, hG6_67 P), (68, hG6_68 P), (69, hG6_69 P), (70, hG6_70 P), (71, hG6_71 P), (72, hG6_72 P), (73, hG6_73 P), (74, hG6_74 P), (75, hG6_75 P), (76, hG6_76 P), (77, hG6_77 P), (78, hG6_78 P), (79, hG6_79 P), (80, hG6_80 P), (81, hG6_81 P), (82, hG10x0_82 P), (83, hG10x0_83 P), (84, hG10x0_84 P), (85, hG13_85 P), (86, hG10x128_86 P), (87, hG10_87 P), (88, hG10_88 P), (89, hG11_89 P), (90, hG11_90 P), (91, hG11_91 P), (92, hG11_92 P), (93, hG11_93 P), (94, hG11_94 P), (95, hG11_95 P), (96, hG11_96 P), (97, hG11_97 P), (98, hG11_98 P), (99, hG11_99 P), (100, hG11_100 P), (101, hG11_101 P), (102, hG11_102 P), (103, hG11_103 P), (104, hG12_104 P), (105, hG12_105 P), (106, hG12_106 P), (107, hG12_107 P), (108, hG12_108 P), (109, hG12_109 P), (110, hG12_110 P), (111, hG12_111 P), (112, hG12_112 P), (113, hG12_113 P), (114, hG12_114 P), (115, hG12_115 P), (116, hG12_116 P), (117, hG12_117 P), (118, hG12_118 P), (119, hG13_119 P), (120, hG13_120 P), (121, hG13_121 P), (122, hG13_122 P), (123, hG13_123 P), (124, hG13_124 P), (125, hG13_125 P), (126, hG13_126 P), (127, hG13_127 P), (128, hG13_128 P), (129, hG13_129 P), (130, hG13_130 P), (131, hG13_131 P), (132, hG13_132 P), (133, hG13_133 P), (134, hG13_134 P), (135, hG13_135 P), (136, hG14_136 P), (137, hG14_137 P), (138, hG14_138 P), (139, hG14_139 P), (140, hG14_140 P), (141, hG14_141 P), (142, hG14_142 P), (143, hG14_143 P), (144, hG14_144 P), (145, hG14_145 P), (146, hG14_146 P), (147, hG14_147 P), (148, hG14_148 P), (149, hG14_149 P), (150, hG14_150 P), (151, hG14_151 P), (152, hG14_152 P), (153, hG14_153 P), (154, hG14_154 P), (155, hG14_155 P), (156, hG14_156 P), (157, hG14_157 P), (158, hG14_158 P), (159, hG14_159 P), (160, hG14_160 P), (161, hG14_161 P), (162, hG14_162 P), (163, hG14_163 P), (164, hG14_164 P), (165, hG14_165 P), (166, hG14_166 P), (167, hG14_167 P), (168, hG14_168 P), (169, hG14_169 P), (170, hG14_170 P), (171, hG14_171 P), (172, hG14_172 P), (173, hG14_173 P), (174, hG14_174 P), (175, hG14_175 P), (176, hG14_176 P), (177, hG14_177 P), (178, hG14_178 P), (179, hG14_179 P), (180, hG14_180 P), (181, hG14_181 P), (182, hG14_182 P), (183, hG14_183 P), (184, hG14_184 P), (185, hG14_185 P), (186, hG14_186 P), (187, hG14_187 P), (188, hG14_188 P), (189, hG14_189 P), (190, hG14_190 P), (191, hG14_191 P), (192, hG14_192 P), (193, hG14_193 P), (194, hG14_194 P), (195, hG14_195 P), (196, hG14_196 P), (197, hG14_197 P), (198, hG14_198 P), (199, hG14_199 P), (200, hG14_200 P), (201, hG14_201 P), (202, hG14_202 P), (203, hG14_203 P), (204, hG14_204 P), (205, hG14_205 P), (206, hG14_206 P), (207, hG14_207 P), (208, hG14_208 P), (209, hG14_209 P), (210, hG14_210 P), (211, hG14_211 P), (212, hG14_212 P), (213, hG14_213 P), (214, hG14_214 P), (215, hG14_215 P), (216, hG14_216 P), (217, hG14_217 P), (218, hG14_218 P), (219, hG14_219 P), (220, hG14_220 P), (221, hG14_221 P), (222, hG14_222 P), (223, hG14_223 P), (224, hG14_224 P), (225, hG14_225 P), (226, hG14_226 P), (227, hG14_227 P), (228, hG14_228 P), (229, hG14_229 P), (230, hG14_230 P), (231, hG14_231 P), (232, hG14_232 P), (233, hG14_233 P), (234, hG14_234 P), (235, hG14_235 P), (236, hG14_236 P), (237, hG14_237 P), (238, hG14_238 P), (239, hG14_239 P), (240, hG14_240 P), (241, hG14_241 P), (242, hG14_242 P), (243, hG14_243 P), (244, hG14_244 P), (245, hG14_245 P), (246, hG14_246 P), (247, hG14_247 P), (248, hG15_248 P), (249, hG15_249 P), (250, hG15_250 P), (251, hG15_251 P), (252, hG15_252 P), (253, hG15_253 P), (254, hG15_254 P), (255, hG15_255 P), (256, hG15_256 P), (257, hG15_257 P), (258, hG15_258 P), (259, hG15_259 P), (260, hG15_260 P), (261, hG15_261 P), (262, hG15_262 P), (263, hG15_263 P), (264, hG15_264 P), (265, hG15_265 P), (266, hG15_266 P), (267, hG15_267 P), (268, hG15_268 P), (269, hG15_269 P), (270, hG15_270 P), (271, hG15_271 P), (272, hG15_272 P), (273, hG15_273 P), (274, hG15_274 P), (275, hG15_275 P), (276, hG15_276 P), (277, hG15_277 P), (278, hG15_278 P), (279, hG15_279 P), (280, hG15_280 P)]
noncomputable def as9 : List Addr := [0, 1, 2, 3, 4, 5, 6, 7, 8, 9, 10, 11, 12, 13, 14, 15, 16, 17, 18, 19, 20, 21, 22, 23, 24, 25, 26, 27, 28, 29, 30, 31, 32, 33, 34, 35, 36, 37, 38, 39, 40, 41, 42, 43, 44, 45, 46, 47, 48, 49, 50, 51, 52, 53, 54, 55, 56, 57, 58, 59, 60, 61, 62, 63, 64, 65, 66, 67, 68, 69, 70, 71, 72, 73, 74, 75, 76, 77, 78, 79, 80, 81, 82, 83, 84, 85, 86, 87, 88, 89, 90, 91, 92, 93, 94, 95, 96, 97, 98, 99, 100, 101, 102, 103, 104, 105, 106, 107, 108, 109, 110, 111, 112, 113, 114, 115, 116, 117, 118, 119, 120, 121, 122, 123, 124, 125, 126, 127, 128, 129, 130, 131, 132, 133, 134, 135, 136, 137, 138, 139, 140, 141, 142, 143, 144, 145, 146, 147, 148, 149, 150, 151, 152, 153, 154, 155, 156, 157, 158, 159, 160, 161, 162, 163, 164, 165, 166, 167, 168, 169, 170, 171, 172, 173, 174, 175, 176, 177, 178, 179, 180, 181, 182, 183, 184, 185, 186, 187, 188, 189, 190, 191, 192, 193, 194, 195, 196, 197, 198, 199, 200, 201, 202, 203, 204, 205, 206, 207, 208, 209, 210, 211, 212, 213, 214, 215, 216, 217, 218, 219, 220, 221, 222, 223, 224, 225, 226, 227, 228, 229, 230, 231, 232, 233, 234, 235, 236, 237, 238, 239, 240, 241, 242, 243, 244, 245, 246, 247, 248, 249, 250, 251, 252, 253, 254, 255, 256, 257, 258, 259, 260, 261, 262, 263, 264, 265, 266, 267, 268, 269, 270, 271, 272, 273, 274, 275, 276, 277, 278, 279, 280]
noncomputable abbrev r9 : OpenRow := PySem.Challenge.rw_dm0164_12.row
noncomputable abbrev H9 : Hook := kHook K9 as9 (fun _ => by kernel_rfl)
noncomputable abbrev X9 (s : Shared) : Bool := xlAt view9 lv9 s && recOk (RowW.records r9.toRowW) s
theorem kitm9 {prog : Program} (w : World) {B : Heap} {os : OsState} {mg mb : Str → Option Value} (G' : GX (Cx.mk prog w B os) mg mb) (X : (K9 w.params).In (Cx.mk prog w B os).B) (gl : ∀ x, mg x = nsFind (glD (K9 w.params)) x) :
    KitM (Cx.mk prog w B os) mg mb (K9 w.params) 243 149 156 177 85 := by
  have Z : Kit (Cx.mk prog w B os) mg mb (K9 w.params) 243 149 156 177 85 := by
    refine ⟨G', ⟨?_, ?_, ?_, ?_, ?_⟩, ?_, ⟨X, ?_, ?_, ?_, ?_⟩, ?_, ?_, ?_, ?_, ?_⟩
    · rw [gl]; exact intIs_is (by kernel_rfl)
    · rw [gl]; exact intIs_is (by kernel_rfl)
    · rw [gl]; exact intIs_is (by kernel_rfl)
    · rw [gl]; exact intIs_is (by kernel_rfl)
    · rw [gl]; exact intIs_is (by kernel_rfl)
    · rw [gl]; kernel_rfl
    · kernel_rfl
    · kernel_rfl
    · kernel_rfl
    · intro n hn
      simp only [List.mem_cons, List.mem_nil_iff, or_false] at hn
      rcases hn with rfl | rfl | rfl | rfl | rfl | rfl <;> exact ⟨by kernel_rfl, by kernel_rfl, by kernel_rfl⟩
    · rw [gl]; kernel_rfl
    · have hk : tabOk 0 ((dictIn (K9 w.params) 85).getD #[]).toList = true := by kernel_rfl
      obtain ⟨pm, cd, F⟩ : ∃ pm cd, FnAt (Cx.mk prog w B os) 74 (fdOf "ParseMap.__missing__" pm cd sMiss) (fnB sMiss) ["self", "key"] := fn_at X (by kernel_rfl) rfl (by kernel_rfl) ⟨rfl, rfl, rfl⟩ (len2 fun a b => by kernel_rfl)
      exact tab_all (cls := 77) (dx := 84) (fm := 74) (es := (dictIn (K9 w.params) 85).getD #[]) (fd := default) (body := []) hk ⟨X, tab_at X (by kernel_rfl), obj_at X (by kernel_rfl), tab_keys hk, by kernel_rfl, by kernel_rfl, by kernel_rfl, by kernel_rfl, by kernel_rfl, by kernel_rfl⟩ F
    · exact fn_at X (by kernel_rfl) rfl (by kernel_rfl) ⟨rfl, rfl, rfl⟩ (len3 fun a b c => by kernel_rfl)
    · exact fn_at X (by kernel_rfl) rfl (by kernel_rfl) ⟨rfl, rfl, rfl⟩ (len2 fun a b => by kernel_rfl)
    · exact fn_at X (by kernel_rfl) rfl (by kernel_rfl) ⟨rfl, rfl, rfl⟩ (len1 fun a => by kernel_rfl)
  exact ⟨Z, by rw [gl]; kernel_rfl, by kernel_rfl, by kernel_rfl, by kernel_rfl, by kernel_rfl, by kernel_rfl, by kernel_rfl, by kernel_rfl, by kernel_rfl, by kernel_rfl, by kernel_rfl, by kernel_rfl, by kernel_rfl⟩
theorem kit2_9 {prog : Program} (w : World) {B : Heap} {os : OsState} {mg mb : Str → Option Value} (X : (K9 w.params).In (Cx.mk prog w B os).B) (gl : ∀ x, mg x = nsFind (glD (K9 w.params)) x) :
    Kit2 (Cx.mk prog w B os) mg (K9 w.params) 243 191 := by
  refine ⟨fn_at X (by kernel_rfl) rfl (by kernel_rfl) ⟨rfl, rfl, rfl⟩ (len1 fun a => by kernel_rfl), by kernel_rfl, by kernel_rfl, by kernel_rfl, by kernel_rfl, ?_, ⟨58, 43, 42, by rw [gl]; kernel_rfl, pat_at (o := hG0_43 w.params) (o' := hG0_42 w.params) X (by kernel_rfl) (by kernel_rfl) ⟨_, _, _, _, _, rfl⟩ (by kernel_rfl) rfl (by kernel_rfl)⟩, ⟨59, 48, 47, by rw [gl]; kernel_rfl, pat_at (o := hG0_48 w.params) (o' := hG0_47 w.params) X (by kernel_rfl) (by kernel_rfl) ⟨_, _, _, _, _, rfl⟩ (by kernel_rfl) rfl (by kernel_rfl)⟩, ⟨60, 53, 52, by rw [gl]; kernel_rfl, pat_at (o := hG4_53 w.params) (o' := hG4_52 w.params) X (by kernel_rfl) (by kernel_rfl) ⟨_, _, _, _, _, rfl⟩ (by kernel_rfl) rfl (by kernel_rfl)⟩, by rw [gl]; kernel_rfl, by rw [gl]; kernel_rfl⟩
  intro n hn
  simp only [List.mem_cons, List.mem_nil_iff, or_false] at hn
  rcases hn with rfl | rfl | rfl | rfl | rfl <;> exact ⟨by kernel_rfl, by kernel_rfl, by kernel_rfl⟩
theorem left9 : LeftO r9.prog view9 loose9 X9 H9.obs H9.val N9 false :=
  LeftO.of_pieces (p := p9) h_open h_size h_run (by kernel_rfl) fun w => funext fun os => looks_pair (by kernel_rfl) (looks_pair (by rw [show @openSeen = _ from PySem.W.Fast.te4187177175401517315]; kernel_rfl) (by kernel_rfl))
theorem rn9 : namesResolve p9 = true := by
  rw [show @namesResolve = _ from PySem.W.Fast.te8377067652309620493]
  kernel_rfl
theorem rd9 : noRoadLSs { strict := !(importedModules p9.main.body).all cThrough.contains, foot := none, bare := (["vars", "dir", "locals"] : List Str).filter (readsOut p9 p9.main.body) } p9.main.body = true := by
  rw [show @noRoadLSs = _ from PySem.W.Fast.te8326940854005059898]
  kernel_rfl
theorem lo9 : looksOpen p9 = true := by
  unfold looksOpen
  exact look_both (look_both (look_both (look_both (look_both (by decide +kernel) (by decide +kernel)) rn9) (by decide +kernel)) rd9) (by decide +kernel)
theorem row9 : (OpenLaw.row PySem.Challenge.rw_dm0164_12).wellSaid = true := by
  unfold OpenRow.wellSaid OpenRow.partSaid
  repeat' (with_reducible refine look_both ?_ ?_)
  · exact lo9
  all_goals decide +kernel
theorem said9 : OpenLaw.wellSaid PySem.Challenge.rw_dm0164_12 = true := by
  unfold OpenLaw.wellSaid
  repeat' (with_reducible refine look_both ?_ ?_)
  · exact row9
  all_goals decide +kernel
end Mine
open Mine in
theorem PySem.Challenge.cw_dm0164_12_holds : PySem.Challenge.rw_dm0164_12.Holds := by
  w_on
  refine holds_law said9 fun said => ?_
  refine holds_openN (q := view9) (loose := loose9) (Xt := X9) (XP := XL view9 lv9) (Yf := H9.obs) (Ya := H9.val) (YP := H9.says) (N := N9) left9 H9.of H9.keeps (fun s e => xl_of s (Bool.and_eq_true_iff.mp e).1) XL.keeps (by rfl) (by rfl) (by rfl) (fun s e => recFacts_of (Bool.and_eq_true_iff.mp e).2) (by rfl) (by assumption) (by decide +kernel) ⟨rfl, rfl, rfl, rfl, rfl, by decide +kernel⟩ ?hw ?hc
  case hw => w_witness2
  case hc => w_strict (
    intro w s₀ s₁ mg mb G Y fa o pm cd doc dV kV ho hd hcd hD hmg hg args vals as hpre hlay hrd hwl hlo
    have KX := kIn_of Y
    refine Ground.open G ?_
    intro T B D TE TW
    clear Y B D TE TW
    wrow_args hpre hlay hrd hwl hlo
    all_goals (
      refine enter_callW ?_
      w_top on
      rename_i xs _ _ _ _ _ _ _ a items _ hL _ _ _ hI _ hc _
      clear hmg
      have he := Dflts.none hD rfl; subst he; have he := Dflts.noKw hD; subst he
      have X : (K9 w.params).In (Cx.mk PySem.Challenge.rw_dm0164_12.row.prog w s₁.heap s₁.os).B := KX
      have G' : GX (Cx.mk PySem.Challenge.rw_dm0164_12.row.prog w s₁.heap s₁.os) mg mb := gx_of T
      have gl := fun x => glob_at (es := glD (K9 w.params)) G' X (by kernel_rfl) x
      have M := kitm9 w G' X gl
      have FT : ∃ pm cd, FnAt (Cx.mk PySem.Challenge.rw_dm0164_12.row.prog w s₁.heap s₁.os) 252 (fdOf "_law_text" pm cd sTxt) (fnB sTxt) ["script"] := fn_at X (by kernel_rfl) rfl (by kernel_rfl) ⟨rfl, rfl, rfl⟩ (len1 fun a => by kernel_rfl)
      have FM : ∃ pm cd, FnAt (Cx.mk PySem.Challenge.rw_dm0164_12.row.prog w s₁.heap s₁.os) 259 (fdOf "_law_marks" pm cd sMks) (fnB sMks) ["text"] := fn_at X (by kernel_rfl) rfl (by kernel_rfl) ⟨rfl, rfl, rfl⟩ (len1 fun a => by kernel_rfl)
      have FJ : ∃ pm cd, FnAt (Cx.mk PySem.Challenge.rw_dm0164_12.row.prog w s₁.heap s₁.os) 266 (fdOf "_law_junk" pm cd sJnk) (fnB sJnk) ["text", "k"] := fn_at X (by kernel_rfl) rfl (by kernel_rfl) ⟨rfl, rfl, rfl⟩ (len2 fun a b => by kernel_rfl)
      have FL : ∃ pm cd, FnAt (Cx.mk PySem.Challenge.rw_dm0164_12.row.prog w s₁.heap s₁.os) 273 (fdOf "_law_last" pm cd sLst) (fnB sLst) ["text"] := fn_at X (by kernel_rfl) rfl (by kernel_rfl) ⟨rfl, rfl, rfl⟩ (len1 fun a => by kernel_rfl)
      have Z2 := kit2_9 w (mb := mb) X gl
      refine entry (r := ["k", "text", "e", "rows", "depth", "lastch", "closed", "opened", "marks", "start", "end", "parser", "told"]) G' ⟨⟨o, ho, hd⟩, rfl, hcd, rfl, rfl, rfl, len1 fun a => by kernel_rfl⟩ hg hL hI (.cons (.rest (.rest (.rest (.rest (.rest (.rest (.rest (.rest (.rest (.rest (.rest (.rest (.rest .nil)))))))))))))) (by decide) (by decide) (show ∀ x ∈ (scB sLaw).names, x.2 ≠ .cell by decide) (show ∀ x ∈ (["script"] : List Str), (scB sLaw).names.lookup x = some .local by decide) (fun L => law_ok (pm := pm) (cd := cd) M rfl (show callerA.depth + 1 + 2 < recursionLimit by decide) (show callerA.units + 3 + 64 < cLine by decide) Z2 FT (by rw [gl]; kernel_rfl) FM (by rw [gl]; kernel_rfl) FJ (by rw [gl]; kernel_rfl) FL (by rw [gl]; kernel_rfl) (by rw [gl]; kernel_rfl) (by omega)) fun s' h1 h2 h3 => good_true (fun _ => rfl) (by kernel_rfl) h1 h2 h3))
