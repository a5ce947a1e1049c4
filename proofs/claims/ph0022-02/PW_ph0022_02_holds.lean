import PyProof.Rows.All
import Wide.All
import OpenK.AllK
import Wide.FinOn
import Lean
import PySem.Challenge.RW_ph0022_02
open PySem PySem.W PyProof.Rows
set_option Elab.async false
set_option linter.unusedVariables false
section
open PySem PySem.W PyProof.Rows PySem.Calls PySem.Spec
set_option maxRecDepth 100000
set_option maxHeartbeats 4000000
namespace Mine
abbrev PW : Program := PySem.Challenge.pw_ph0022_02
def prmP (i : Nat) : Arguments := match PW.main.body[i]? with | some (.FunctionDef _ a _ _ _ _ _ _ _ _) => a | _ => ⟨[], [], none, [], [], none, []⟩
def bdyP (i : Nat) : List Stmt := match PW.main.body[i]? with | some (.FunctionDef _ _ b _ _ _ _ _ _ _) => b | _ => []
def scpP (i : Nat) : Scope := match PW.main.body[i]? with | some (.FunctionDef _ _ _ _ _ _ s _ _ _) => s | _ => { kind := .module, names := [] , isGenerator := false, isCoroutine := false}
/-- the function object of a def of the text -/
def FnIs (h : Heap) (a : Addr) (name : Str) (i : Nat) : Prop :=
  ∃ o pm cd doc, h.get? a = some o ∧ o.data = .func (docDef name (prmP i) (bdyP i) (scpP i) pm cd doc) ∧ h.CodeRec cd name
theorem FnIs.keeps {h h' : Heap} {a : Addr} {name : Str} {i : Nat} (x : FnIs h a name i) (hk : ∀ b o, h.get? b = some o → h'.get? b = some o) : FnIs h' a name i :=
  let ⟨o, pm, cd, doc, h1, h2, h3⟩ := x; ⟨o, pm, cd, doc, hk _ _ h1, h2, h3.keeps hk⟩
theorem call_fn {prog : Program} {w : World} {A : Around} {R : Result → Shared → Prop} {s : Shared} {name : Str} {i : Nat} {a : Addr} {args : List Value} {binds : List (Str × Value)}
    (hf : FnIs s.heap a name i) (hroom : A.depth < recursionLimit) (hlim : s.heap.NoLimit)
    (hbind : ∀ pm cd doc, bindArgs (docDef name (prmP i) (bdyP i) (scpP i) pm cd doc) ⟨args, []⟩ = pure binds)
    (hloc : (binds.all fun x => decide ((scpP i).names.lookup x.1 = some .local)) = true)
    (h : ∀ cd h₁, Fr s.heap s.heap.objs.size h₁ (fun x => binds.reverse.lookup x) →
      wpAny (model prog w) (A.deeper (envOf name (scpP i) s.heap.objs.size a cd)) (execs (bdyP i) (envOf name (scpP i) s.heap.objs.size a cd))
        (fun f s' => R (.ok (.ret (match f with | .ret v => v | _ => .none))) s')
        (fun e s' => wpAny (model prog w) (A.deeper (envOf name (scpP i) s.heap.objs.size a cd)) (leaving (envOf name (scpP i) s.heap.objs.size a cd) e)
          (fun _ s'' => R (.error e) s'') (fun e' s'' => R (.error e') s'') s')
        { s with heap := h₁, toks := s.toks + binds.length })
    (hco : (scpP i).isCoroutine = false := by rfl) (hgen : (scpP i).isGenerator = false := by rfl) (hk : (scpP i).kind = .function := by rfl)
    (hcell : ∀ x ∈ (scpP i).names, x.2 ≠ .cell := by decide) :
    codeAny (model prog w) A (.call (.ref a) ⟨args, []⟩) R s := by
  obtain ⟨o, pm, cd, doc, h1, h2, h3⟩ := hf
  exact call_plain hroom h1 h2 hlim h3 (hbind pm cd doc) (locs hloc) (h cd) hco hgen hk hcell
def sgn (p q : Bool) : Int := b2i p - b2i q
theorem coll_strs {prog : Program} {w : World} {A : Around} {R : Result → Shared → Prop} {s : Shared} {a : Addr} {x y : Str} {tx ty : Tok}
    (hf : FnIs s.heap a "_strcoll" 2) (hroom : A.depth < recursionLimit) (hlim : s.heap.NoLimit)
    (h : ∀ h' tk t, (∀ b o, s.heap.get? b = some o → h'.get? b = some o) → R (.ok (.ret (.int (b2i (decide (y.cps.toList < x.cps.toList)) - b2i (decide (x.cps.toList < y.cps.toList))) t))) { s with heap := h', toks := tk }) :
    codeAny (model prog w) A (.call (.ref a) ⟨[.str x tx, .str y ty], []⟩) R s := by
  refine call_fn (binds := [("a", .str x tx), ("b", .str y ty)]) hf hroom hlim (fun _ _ _ => rfl) (by rfl) fun cd h₁ F => ?_
  refine wpAny_execs_cons (wpAny_Return_some (wpAny_BinOp (wpAny_Compare1 ?_)))
  refine ld F rfl (ld F rfl ?_)
  refine P.gt_str ?_
  refine wpAny_Compare1 (ld F rfl (ld F rfl ?_))
  refine P.lt_str ?_
  refine sub_bool ?_
  exact h _ _ _ F.keep
end Mine
end
section
open PySem PySem.W PyProof.Rows PySem.Calls PySem.Spec
set_option maxRecDepth 100000
set_option maxHeartbeats 4000000
namespace Mine
/-- the pattern's code -/
def cdA : Array Nat := #[14, 4, 0, 1, 4294967295, 17, 0, 7, 14, 24, 10, 1, 4294967295, 13, 5, 22, 48, 57, 0, 1, 15, 17, 15, 13, 11, 9, 0, 26624, 2147483648, 0, 0, 0, 0, 0, 0, 15, 2, 0, 17, 1, 1]
def isDig (c : Nat) : Prop := 48 ≤ c ∧ c ≤ 57
def isSep (c : Nat) : Prop := c = 46 ∨ c = 95 ∨ c = 43 ∨ c = 45
theorem acc_dig {c : Nat} (h : isDig c) (seen : Sre.Seen) : ∃ seen', Sre.accepts cdA 13 c seen = .ok (true, seen') := by
  refine ⟨seen.add 22, ?_⟩
  obtain ⟨h1, h2⟩ := h
  simp [Sre.accepts, cdA, Sre.ops, Sre.inSet, h1, h2]
theorem acc_nodig {c : Nat} (h : ¬ isDig c) (seen : Sre.Seen) : ∃ seen', Sre.accepts cdA 13 c seen = .ok (false, seen') := by
  refine ⟨(seen.add 22).add 0, ?_⟩
  have h' : ¬ (48 ≤ c ∧ c ≤ 57) := h
  simp [Sre.accepts, cdA, Sre.ops, Sre.inSet, h']
theorem acc_sep {c : Nat} (h : isSep c) (seen : Sre.Seen) : ∃ seen', Sre.accepts cdA 23 c seen = .ok (true, seen') := by
  refine ⟨seen.add 9, ?_⟩
  rcases h with rfl | rfl | rfl | rfl <;> simp [Sre.accepts, cdA, Sre.ops, Sre.inSet, Nat.testBit]
theorem run_digs {text : Array Nat} : ∀ (m n p found : Nat) (seen : Sre.Seen), n ≤ m → (∀ j, j < n → isDig (text.getD (p + j) 0)) → (n = m ∨ ¬ isDig (text.getD (p + n) 0)) →
    ∃ seen', Sre.run cdA text 13 m p found seen = .ok (found + n, seen')
  | 0, n, p, found, seen, hn, _, _ => by
    obtain rfl : n = 0 := by omega
    exact ⟨seen, rfl⟩
  | m + 1, 0, p, found, seen, _, _, he => by
    have h0 : ¬ isDig (text.getD p 0) := he.resolve_left (by omega)
    obtain ⟨s', e⟩ := acc_nodig h0 seen
    exact ⟨s', by unfold Sre.run; rw [e]; rfl⟩
  | m + 1, n + 1, p, found, seen, hn, hd, he => by
    have h1 : isDig (text.getD p 0) := hd 0 (by omega)
    obtain ⟨s1, e1⟩ := acc_dig h1 seen
    obtain ⟨s', e⟩ := run_digs m n (p + 1) (found + 1) s1 (by omega) (fun j hj => by have := hd (j + 1) (by omega); rwa [show p + (j + 1) = p + 1 + j by omega] at this)
      (he.imp (by omega) (fun h => by rwa [show p + (n + 1) = p + 1 + n by omega] at h))
    refine ⟨s', ?_⟩
    unfold Sre.run
    rw [e1]
    show Sre.run cdA text 13 m (p + 1) (found + 1) s1 = _
    rw [e]
    congr 2
    omega
/-- a state of the machine over the pattern's code -/
def stM (text : Array Nat) (lim p pc pos handed : Nat) (marks : Array (Option Nat)) (lm li : Int) (frames : List Sre.Frame) (wt : Nat) (ans : Option Bool) (seen : Sre.Seen) (out : Option Sre.Outcome) : Sre.M :=
  { code := cdA, text := text, lim := lim, start := p, lastStart := lim, pc := pc, pos := pos, handed := handed, marks := marks, lastmark := lm, lastindex := li, frames := frames, weight := wt, answer := ans, seen := seen, outcome := out }
def fr0 (p : Nat) : Sre.Frame := { wait := .nextStart, pc := 5, pos := p, outermost := true }
def fr1 (alt p : Nat) : Sre.Frame := { wait := .nextBranch, pc := alt, pos := p, outermost := true, kept := { lastmark := 0 } }
def fr2 (p n : Nat) : Sre.Frame := { wait := .giveBack, pc := 9, pos := p + n, outermost := true, count := n, kept := { lastmark := 0 } }
theorem search_start {text : Array Nat} {lim p : Nat} (h : p < lim) : ∃ seen, Sre.forSearch cdA text 1 p lim false = stM text lim p 5 p p #[none, none] (-1) (-1) [fr0 p] 1 none seen none := by
  have h1 : ¬ (lim < p ∨ lim - p < 1) := by omega
  refine ⟨({} : Sre.Seen).add 14, ?_⟩
  unfold Sre.forSearch
  have e : Sre.header cdA = (1, 5) := rfl
  rw [e]
  have c : (decide (p > lim) || decide (lim - p < 1)) = false := by simp; omega
  simp only [c]
  rfl
theorem search_end {text : Array Nat} {lim : Nat} : ∃ seen, Sre.forSearch cdA text 1 lim lim false = { code := cdA, text := text, lim := lim, start := lim, pc := 5, pos := lim, handed := lim, marks := #[none, none], answer := some false, seen := seen } := by
  refine ⟨({} : Sre.Seen).add 14, ?_⟩
  unfold Sre.forSearch
  have e : Sre.header cdA = (1, 5) := rfl
  rw [e]
  have c : (decide (lim > lim) || decide (lim - lim < 1)) = true := by simp
  simp only [c]
  rfl
theorem step_exec {m : Sre.M} (h1 : m.outcome = none) (h2 : m.answer = none) (h3 : m.pc < m.code.size) : m.step = m.exec := by
  unfold Sre.M.step
  rw [h1, h2]
  simp [h3]
theorem exec_rep {m : Sre.M} {n : Nat} {s' : Sre.Seen} (hop : Sre.ops[m.code.getD m.pc 0]? = some .REPEAT_ONE) (h1 : ¬ ((m.code.getD (m.pc + 2) 0 : Int) > (m.lim : Int) - m.pos))
    (hr : Sre.run m.code m.text (m.pc + 4) (min (m.code.getD (m.pc + 3) 0) ((m.lim : Int) - m.pos).toNat) m.pos 0 ((m.seen.add (m.code.getD m.pc 0)).add (m.code.getD (m.pc + 4) 0)) = .ok (n, s')) :
    m.exec = if n < m.code.getD (m.pc + 2) 0 then { m with seen := s' }.say false else ({ m with seen := s', pos := m.pos + n }).afterRun .giveBack n (({ m with seen := s', pos := m.pos + n }).keep m.inner.isSome) := by
  have hop' : Sre.ops[m.word 0]? = some .REPEAT_ONE := hop
  unfold Sre.M.exec
  rw [hop']
  dsimp only [Sre.M.word]
  rw [if_neg h1]
  simp only [Bool.false_eq_true, if_false, Nat.add_zero, hr]
theorem exec_in {m : Sre.M} {s' : Sre.Seen} (hop : Sre.ops[m.code.getD m.pc 0]? = some .IN) (h1 : ¬ m.pos ≥ m.lim)
    (hr : Sre.accepts m.code m.pc (m.text.getD m.pos 0) (m.seen.add (m.code.getD m.pc 0)) = .ok (true, s')) :
    m.exec = { m with seen := s', pc := m.pc + Sre.itemWidth m.code m.pc, pos := m.pos + 1 } := by
  have hop' : Sre.ops[m.word 0]? = some .IN := hop
  unfold Sre.M.exec
  rw [hop']
  dsimp only [Sre.M.word]
  rw [if_neg h1]
  simp only [Nat.add_zero, hr]
theorem step1 {text lim p seen} : ∃ seen', (stM text lim p 5 p p #[none, none] (-1) (-1) [fr0 p] 1 none seen none).step = stM text lim p 7 p p #[some p, none] 0 (-1) [fr0 p] 1 none seen' none := ⟨_, rfl⟩
theorem step2 {text lim p seen} : ∃ seen', (stM text lim p 7 p p #[some p, none] 0 (-1) [fr0 p] 1 none seen none).step = stM text lim p 9 p p #[some p, none] 0 (-1) [fr1 8 p, fr0 p] 2 none seen' none := ⟨_, rfl⟩
theorem step3d {text : Array Nat} {lim p n : Nat} {seen : Sre.Seen} (hn : 0 < n) (hl : p + n ≤ lim) (hs : lim ≤ 16777216) (hd : ∀ j, j < n → isDig (text.getD (p + j) 0)) (he : p + n = lim ∨ ¬ isDig (text.getD (p + n) 0)) :
    ∃ seen', (stM text lim p 9 p p #[some p, none] 0 (-1) [fr1 8 p, fr0 p] 2 none seen none).step = stM text lim p 20 (p + n) (p + n) #[some p, none] 0 (-1) [fr2 p n, fr1 8 p, fr0 p] 3 none seen' none := by
  obtain ⟨s', e⟩ := run_digs (text := text) (lim - p) n p 0 ((seen.add 24).add 13) (by omega) hd (he.imp (by omega) id)
  rw [Nat.zero_add] at e
  refine ⟨s', ?_⟩
  rw [step_exec rfl rfl (show 9 < 41 by decide)]
  have c2 : min 4294967295 ((lim : Int) - (p : Int)).toNat = lim - p := by omega
  refine (exec_rep (n := n) (s' := s') rfl (show ¬ ((1 : Nat) : Int) > (lim : Int) - (p : Int) by omega) (show Sre.run cdA text 13 (min 4294967295 ((lim : Int) - (p : Int)).toNat) p 0 ((seen.add 24).add 13) = .ok (n, s') by rw [c2]; exact e)).trans ?_
  exact (if_neg (show ¬ n < 1 by omega)).trans rfl
theorem step3s {text : Array Nat} {lim p : Nat} {seen : Sre.Seen} (hl : p < lim) (hs : lim ≤ 16777216) (hd : ¬ isDig (text.getD p 0)) :
    ∃ seen', (stM text lim p 9 p p #[some p, none] 0 (-1) [fr1 8 p, fr0 p] 2 none seen none).step = stM text lim p 9 p p #[some p, none] 0 (-1) [fr1 8 p, fr0 p] 2 (some false) seen' none := by
  obtain ⟨s', e⟩ := run_digs (text := text) (lim - p) 0 p 0 ((seen.add 24).add 13) (by omega) (fun j hj => by omega) (.inr hd)
  rw [Nat.zero_add] at e
  refine ⟨s', ?_⟩
  rw [step_exec rfl rfl (show 9 < 41 by decide)]
  have c2 : min 4294967295 ((lim : Int) - (p : Int)).toNat = lim - p := by omega
  rw [exec_rep (n := 0) (s' := s') rfl (show ¬ ((1 : Nat) : Int) > (lim : Int) - (p : Int) by omega) (show Sre.run cdA text 13 (min 4294967295 ((lim : Int) - (p : Int)).toNat) p 0 ((seen.add 24).add 13) = .ok (0, s') by rw [c2]; exact e)]
  rfl
theorem step4d {text lim p n seen} : ∃ seen', (stM text lim p 20 (p + n) (p + n) #[some p, none] 0 (-1) [fr2 p n, fr1 8 p, fr0 p] 3 none seen none).step = stM text lim p 38 (p + n) (p + n) #[some p, none] 0 (-1) [fr2 p n, fr1 8 p, fr0 p] 3 none seen' none := ⟨_, rfl⟩
theorem step5 {text lim p q hd fs wt seen} : ∃ seen', (stM text lim p 38 q hd #[some p, none] 0 (-1) fs wt none seen none).step = stM text lim p 40 q hd #[some p, some q] 1 1 fs wt none seen' none := by
  refine ⟨seen.add 17, ?_⟩
  rw [step_exec rfl rfl (show 38 < 41 by decide)]
  show Sre.M.mark (stM text lim p 38 q hd #[some p, none] 0 (-1) fs wt none (seen.add 17) none) 1 = _
  unfold Sre.M.mark
  rfl
theorem step6 {text lim p q hd fs wt seen} : ∃ seen', (stM text lim p 40 q hd #[some p, some q] 1 1 fs wt none seen none).step = stM text lim p 40 q q #[some p, some q] 1 1 fs wt (some true) seen' none := ⟨_, by rw [step_exec rfl rfl (show 40 < 41 by decide)]; rfl⟩
theorem step7 {text lim p q pc n fs wt seen} : (stM text lim p pc q q #[some p, some q] 1 1 (fr2 p n :: fs) wt (some true) seen none).step = stM text lim p 9 (p + n) q #[some p, some q] 1 1 fs (wt - 1) (some true) seen none := rfl
theorem step8 {text lim p pc pos q alt fs wt seen} : (stM text lim p pc pos q #[some p, some q] 1 1 (fr1 alt p :: fs) wt (some true) seen none).step = stM text lim p alt p q #[some p, some q] 1 1 fs (wt - 1) (some true) seen none := rfl
theorem step9 {text lim p pc pos q wt seen} : (stM text lim p pc pos q #[some p, some q] 1 1 [fr0 p] wt (some true) seen none).step = stM text lim p 5 p q #[some p, some q] 1 1 [] (wt - 1) (some true) seen none := rfl
theorem step10 {text lim p pc pos q wt seen} : (stM text lim p pc pos q #[some p, some q] 1 1 [] wt (some true) seen none).step = stM text lim p pc pos q #[some p, some q] 1 1 [] wt (some true) seen (some .matched) := rfl
theorem step4s {text lim p seen} : (stM text lim p 9 p p #[some p, none] 0 (-1) [fr1 8 p, fr0 p] 2 (some false) seen none).step = stM text lim p 23 p p #[some p, none] 0 (-1) [fr1 22 p, fr0 p] 2 none seen none := rfl
theorem step5s {text : Array Nat} {lim p : Nat} {seen : Sre.Seen} (hl : p < lim) (hd : isSep (text.getD p 0)) :
    ∃ seen', (stM text lim p 23 p p #[some p, none] 0 (-1) [fr1 22 p, fr0 p] 2 none seen none).step = stM text lim p 35 (p + 1) p #[some p, none] 0 (-1) [fr1 22 p, fr0 p] 2 none seen' none := by
  obtain ⟨s', e⟩ := acc_sep hd (seen.add 13)
  refine ⟨s', ?_⟩
  rw [step_exec rfl rfl (show 23 < 41 by decide)]
  rw [exec_in (s' := s') rfl (show ¬ p ≥ lim by omega) e]
  rfl
theorem step6s {text lim p hd fs wt seen} : ∃ seen', (stM text lim p 35 (p + 1) hd #[some p, none] 0 (-1) fs wt none seen none).step = stM text lim p 38 (p + 1) hd #[some p, none] 0 (-1) fs wt none seen' none := ⟨_, by rw [step_exec rfl rfl (show 35 < 41 by decide)]; rfl⟩
theorem runFor4 (m : Sre.M) (h0 : m.outcome = none) (h1 : m.step.outcome = none) (h2 : m.step.step.outcome = none) (h3 : m.step.step.step.outcome = none) : m.runFor 4 = m.step.step.step.step := by
  simp [Sre.M.runFor, h0, h1, h2, h3]
end Mine
end
section
open PySem PySem.W PyProof.Rows PySem.Calls PySem.Spec
open PySem.Builtin.Re
set_option maxRecDepth 100000
set_option maxHeartbeats 4000000
namespace Mine
section
variable {M : Model} {A : Around} {E : Value → Shared → Prop} {s : Shared}
theorem drive_more {n : Nat} {m m' : Sre.M} {Q : Sre.M → Shared → Prop} (e : m.runFor 4 = m') (h0 : m'.outcome = none) (h : wpAny M A (reDrive n m') Q E s) : wpAny M A (reDrive (n + 1) m) Q E s := by
  unfold reDrive
  show wpAny M A (if (m.runFor 4).outcome.isSome = true then pure (m.runFor 4) else do rule "sre.turn"; reDrive n (m.runFor 4)) Q E s
  rw [e, h0]
  exact wpAny_bind (wpAny_rule h)
theorem drive_more' {n : Nat} {m m' : Sre.M} {Q : Sre.M → Shared → Prop} (e : m.runFor 4 = m') (h0 : (m.runFor 4).outcome = none) (h : wpAny M A (reDrive n m') Q E s) : wpAny M A (reDrive (n + 1) m) Q E s := drive_more e (e ▸ h0) h
theorem drive_end {n : Nat} {m m' : Sre.M} {o : Sre.Outcome} {Q : Sre.M → Shared → Prop} (h0 : m.runFor 4 = m') (ho : m'.outcome = some o) (h : Q m' s) : wpAny M A (reDrive (n + 1) m) Q E s := by
  unfold reDrive
  show wpAny M A (if (m.runFor 4).outcome.isSome = true then pure (m.runFor 4) else do rule "sre.turn"; reDrive n (m.runFor 4)) Q E s
  rw [h0, ho]
  exact wpAny_pure h
theorem run_to_end {m : Sre.M} {Q : Option Sre.M → Shared → Prop} (h : wpAny M A (reDrive (2 ^ 64) m) (fun m s' => match m.outcome with | some .matched => Q (some m) s' | some .failed => Q none s' | _ => False) E s) :
    wpAny M A (reRunToEnd m) Q E s := by
  unfold reRunToEnd
  refine wpAny_bind (wpAny_mono h (fun m s' hm => ?_) fun _ _ x => x)
  have z : wpAny M A (forIn (List.range Sre.names.size) PUnit.unit fun i _ => (if m.seen.has i = true then do
        rule (Sre.names.getD i "")
        pure (ForInStep.yield PUnit.unit)
      else pure (ForInStep.yield PUnit.unit))) (fun (_ : PUnit) s'' => s'' = s') E s' := by
    refine wpAny_forIn_list _ (fun _ _ s'' => s'' = s') (fun _ s'' => s'' = s') ?_ (fun _ _ x => x) _ _ rfl
    rintro x rest _ s'' rfl
    split
    · exact wpAny_bind (wpAny_rule (wpAny_pure rfl))
    · exact wpAny_pure rfl
  refine wpAny_bind (wpAny_mono z (fun _ s'' e => ?_) fun _ _ x => x)
  subst e
  revert hm
  cases m.outcome with
  | none => exact fun h => h.elim
  | some o => cases o with
    | matched => exact fun h => wpAny_pure h
    | failed => exact fun h => wpAny_pure h
    | stuck => exact fun h => h.elim
end
section
variable {M : Model} {A : Around} {E : Value → Shared → Prop} {s : Shared} {text : Array Nat} {lim p : Nat} {Q : Option Sre.M → Shared → Prop}
/-- what a match leaves -/
structure Found (p q : Nat) (m : Sre.M) : Prop where
  start : m.start = p
  handed : m.handed = q
  marks : m.marks = #[some p, some q]
  last : m.lastmark = 1
theorem two64 : ∃ N : Nat, (2 ^ 64 : Nat) = N + 1 + 1 + 1 := ⟨18446744073709551613, by decide⟩
theorem runFor_succ {n : Nat} {m : Sre.M} (h : m.outcome = none) : Sre.M.runFor (n + 1) m = Sre.M.runFor n m.step := by
  unfold Sre.M.runFor
  rw [h]
  cases n <;> rfl
theorem runFor_over {n : Nat} {m : Sre.M} {o : Sre.Outcome} (h : m.outcome = some o) : Sre.M.runFor n m = m := by
  cases n with
  | zero => rfl
  | succ n => unfold Sre.M.runFor; rw [h]; rfl
theorem run_last9 {text lim p pc pos q seen} : (stM text lim p pc pos q #[some p, some q] 1 1 [fr0 p] 1 (some true) seen none).runFor 4 = stM text lim p 5 p q #[some p, some q] 1 1 [] 0 (some true) seen (some .matched) := by
  rw [runFor_succ (n := 3) rfl, step9, runFor_succ (n := 2) rfl, step10, runFor_over (o := .matched) rfl]
theorem run_last8 {text lim p pc pos q alt seen} : (stM text lim p pc pos q #[some p, some q] 1 1 [fr1 alt p, fr0 p] 2 (some true) seen none).runFor 4 = stM text lim p 5 p q #[some p, some q] 1 1 [] 0 (some true) seen (some .matched) := by
  rw [runFor_succ (n := 3) rfl, step8, runFor_succ (n := 2) rfl, step9, runFor_succ (n := 1) rfl, step10, runFor_over (o := .matched) rfl]
theorem found_digs {n : Nat} (hn : 0 < n) (hl : p + n ≤ lim) (hs : lim ≤ 16777216) (hd : ∀ j, j < n → isDig (text.getD (p + j) 0)) (he : p + n = lim ∨ ¬ isDig (text.getD (p + n) 0))
    (h : ∀ m, Found p (p + n) m → Q (some m) s) : wpAny M A (reRunToEnd (Sre.forSearch cdA text 1 p lim false)) Q E s := by
  refine run_to_end ?_
  obtain ⟨s0, e0⟩ := search_start (text := text) (lim := lim) (p := p) (by omega)
  obtain ⟨s1, e1⟩ := step1 (text := text) (lim := lim) (p := p) (seen := s0)
  obtain ⟨s2, e2⟩ := step2 (text := text) (lim := lim) (p := p) (seen := s1)
  obtain ⟨s3, e3⟩ := step3d (text := text) (seen := s2) hn hl hs hd he
  obtain ⟨s4, e4⟩ := step4d (text := text) (lim := lim) (p := p) (n := n) (seen := s3)
  obtain ⟨s5, e5⟩ := step5 (text := text) (lim := lim) (p := p) (q := p + n) (hd := p + n) (fs := [fr2 p n, fr1 8 p, fr0 p]) (wt := 3) (seen := s4)
  obtain ⟨s6, e6⟩ := step6 (text := text) (lim := lim) (p := p) (q := p + n) (hd := p + n) (fs := [fr2 p n, fr1 8 p, fr0 p]) (wt := 3) (seen := s5)
  have r1 := runFor4 (Sre.forSearch cdA text 1 p lim false) (by rw [e0]; rfl) (by rw [e0, e1]; rfl) (by rw [e0, e1, e2]; rfl) (by rw [e0, e1, e2, e3]; rfl)
  rw [e0, e1, e2, e3, e4] at r1
  obtain ⟨N, hN⟩ := two64
  rw [hN, e0]
  have o1 := congrArg Sre.M.outcome r1
  refine @drive_more' M A E s (N + 1 + 1) _ _ _ r1 o1 ?_
  have r2 := runFor4 (stM text lim p 38 (p + n) (p + n) #[some p, none] 0 (-1) [fr2 p n, fr1 8 p, fr0 p] 3 none s4 none) rfl (by rw [e5]; rfl) (by rw [e5, e6]; rfl) (by rw [e5, e6, step7]; rfl)
  rw [e5, e6, step7, step8] at r2
  have o2 := congrArg Sre.M.outcome r2
  refine @drive_more' M A E s (N + 1) _ _ _ r2 o2 ?_
  refine @drive_end M A E s N _ (stM text lim p 5 p (p + n) #[some p, some (p + n)] 1 1 [] 0 (some true) s6 (some .matched)) .matched _ run_last9 rfl ?_
  exact h _ ⟨rfl, rfl, rfl, rfl⟩
theorem found_sep (hl : p < lim) (hs : lim ≤ 16777216) (hd : isSep (text.getD p 0)) (h : ∀ m, Found p (p + 1) m → Q (some m) s) : wpAny M A (reRunToEnd (Sre.forSearch cdA text 1 p lim false)) Q E s := by
  refine run_to_end ?_
  have hnd : ¬ isDig (text.getD p 0) := by
    rintro ⟨h1, h2⟩
    unfold isSep at hd
    omega
  obtain ⟨s0, e0⟩ := search_start (text := text) (lim := lim) (p := p) hl
  obtain ⟨s1, e1⟩ := step1 (text := text) (lim := lim) (p := p) (seen := s0)
  obtain ⟨s2, e2⟩ := step2 (text := text) (lim := lim) (p := p) (seen := s1)
  obtain ⟨s3, e3⟩ := step3s (text := text) (seen := s2) hl hs hnd
  obtain ⟨s5, e5⟩ := step5s (text := text) (lim := lim) (p := p) (seen := s3) hl hd
  obtain ⟨s6, e6⟩ := step6s (text := text) (lim := lim) (p := p) (hd := p) (fs := [fr1 22 p, fr0 p]) (wt := 2) (seen := s5)
  obtain ⟨s7, e7⟩ := step5 (text := text) (lim := lim) (p := p) (q := p + 1) (hd := p) (fs := [fr1 22 p, fr0 p]) (wt := 2) (seen := s6)
  obtain ⟨s8, e8⟩ := step6 (text := text) (lim := lim) (p := p) (q := p + 1) (hd := p) (fs := [fr1 22 p, fr0 p]) (wt := 2) (seen := s7)
  have r1 := runFor4 (Sre.forSearch cdA text 1 p lim false) (by rw [e0]; rfl) (by rw [e0, e1]; rfl) (by rw [e0, e1, e2]; rfl) (by rw [e0, e1, e2, e3]; rfl)
  rw [e0, e1, e2, e3, step4s] at r1
  obtain ⟨N, hN⟩ := two64
  rw [hN, e0]
  have o1 := congrArg Sre.M.outcome r1
  refine @drive_more' M A E s (N + 1 + 1) _ _ _ r1 o1 ?_
  have r2 := runFor4 (stM text lim p 23 p p #[some p, none] 0 (-1) [fr1 22 p, fr0 p] 2 none s3 none) rfl (by rw [e5]; rfl) (by rw [e5, e6]; rfl) (by rw [e5, e6, e7]; rfl)
  rw [e5, e6, e7, e8] at r2
  have o2 := congrArg Sre.M.outcome r2
  refine @drive_more' M A E s (N + 1) _ _ _ r2 o2 ?_
  refine @drive_end M A E s N _ (stM text lim p 5 p (p + 1) #[some p, some (p + 1)] 1 1 [] 0 (some true) s8 (some .matched)) .matched _ run_last8 rfl ?_
  exact h _ ⟨rfl, rfl, rfl, rfl⟩
theorem found_none (h : Q none s) : wpAny M A (reRunToEnd (Sre.forSearch cdA text 1 lim lim false)) Q E s := by
  refine run_to_end ?_
  obtain ⟨s0, e0⟩ := search_end (text := text) (lim := lim)
  obtain ⟨N, hN⟩ := two64
  rw [hN, e0]
  exact drive_end (n := N + 1 + 1) (o := .failed) rfl rfl h
end
end Mine
end
section
open PySem PySem.W PyProof.Rows PySem.Calls PySem.Spec
open PySem.Builtin.Re
set_option maxRecDepth 100000
set_option maxHeartbeats 4000000
namespace Mine
def digP (q : List Nat) : Prop := q ≠ [] ∧ ∀ c ∈ q, isDig c
def sepP (q : List Nat) : Prop := ∃ c, q = [c] ∧ isSep c
/-- a text cut into runs of figures and separators -/
def Cut : List (List Nat) → Prop
  | [] => True
  | q :: rest => (sepP q ∨ (digP q ∧ ∀ c, rest.flatten.head? = some c → ¬ isDig c)) ∧ Cut rest
theorem Cut.drop {a b : List (List Nat)} : Cut (a ++ b) → Cut b := by
  induction a with
  | nil => exact id
  | cons q a ih => exact fun h => ih h.2
theorem Cut.len {ps : List (List Nat)} (h : Cut ps) : ps.length ≤ ps.flatten.length := by
  induction ps with
  | nil => simp
  | cons q r ih =>
    have h2 := ih h.2
    have h1 : 1 ≤ q.length := by
      rcases h.1 with ⟨c, rfl, _⟩ | ⟨⟨h, _⟩, _⟩
      · simp
      · cases q with
        | nil => exact absurd rfl h
        | cons => simp
    simp only [List.length_cons, List.flatten_cons, List.length_append]
    omega
inductive StrsAre : List Value → List (List Nat) → Prop where
  | nil : StrsAre [] []
  | cons {q : List Nat} {t : Tok} {vs : List Value} {qs : List (List Nat)} : StrsAre vs qs → StrsAre (.str ⟨q.toArray⟩ t :: vs) (q :: qs)
theorem StrsAre.append {a b : List Value} {x y : List (List Nat)} (h : StrsAre a x) (k : StrsAre b y) : StrsAre (a ++ b) (x ++ y) := by
  induction h with
  | nil => exact k
  | cons _ ih => exact .cons ih
theorem StrsAre.length {a : List Value} {x : List (List Nat)} (h : StrsAre a x) : a.length = x.length := by
  induction h with
  | nil => rfl
  | cons _ ih => simp [ih]
theorem StrsAre.one {q : List Nat} {t : Tok} : StrsAre [.str ⟨q.toArray⟩ t] [q] := .cons .nil
def spOut (ps : List (List Nat)) : List (List Nat) := ps.flatMap fun q => [[], q]
theorem spOut_snoc (ps : List (List Nat)) (q : List Nat) : spOut (ps ++ [q]) = spOut ps ++ [[], q] := by simp [spOut]
theorem spOut_len (ps : List (List Nat)) : (spOut ps).length = 2 * ps.length := by
  induction ps with
  | nil => rfl
  | cons q r ih => simp only [spOut, List.flatMap_cons, List.length_append, List.length_cons, List.length_nil] at *; omega
theorem getD_at {text : Array Nat} {a b c : List Nat} (h : text.toList = a ++ b ++ c) {j : Nat} (hj : j < b.length) : text.getD (a.length + j) 0 = b[j] := by
  have : text[a.length + j]? = some b[j] := by
    rw [← Array.getElem?_toList, h, List.append_assoc, List.getElem?_append_right (by omega), List.getElem?_append_left (by omega)]
    simp [hj]
  simp [Array.getD_eq_getD_getElem?, this]
theorem extract_at {text : Array Nat} {a b c : List Nat} (h : text.toList = a ++ b ++ c) : text.extract a.length (a.length + b.length) = b.toArray := by
  apply Array.ext'
  simp [h]
section
variable {M : Model} {A : Around} {E : Value → Shared → Prop} {s : Shared}
structure PatAt (h : Heap) (pa : Addr) : Prop where
  ex : ∃ o f0 f1 ca oc ep, h.get? pa = some o ∧ o.data = .fields #[f0, f1, .int 1 0, .none, .none, .ref ca, .int 0 0] ∧ o.cls = .type "re.Pattern" ∧ o.dict = none ∧ h.get? ca = some oc ∧ oc.data = .seq (cdA.map fun (n : Nat) => Value.int (n : Int) 0) ep
theorem PatAt.keeps {h h' : Heap} {pa : Addr} (x : PatAt h pa) (hk : ∀ b o, h.get? b = some o → h'.get? b = some o) : PatAt h' pa :=
  let ⟨o, f0, f1, ca, oc, ep, h1, h2, h3, hd, h4, h5⟩ := x.ex; ⟨o, f0, f1, ca, oc, ep, hk _ _ h1, h2, h3, hd, hk _ _ h4, h5⟩
theorem whole_target {pa : Addr} {x : Str} {t : Tok} {Q : ReTarget → Shared → Prop} (hp : PatAt s.heap pa)
    (h : Q { pattern := Value.ref pa, string := Value.str x t, code := cdA, text := x.cps, kind := 0, groups := 1, pos := 0, lim := x.cps.size } s) : wpAny M A (reWholeTarget (.ref pa) (.str x t)) Q E s := by
  obtain ⟨o, f0, f1, ca, oc, ep, h1, h2, h3, hd, h4, h5⟩ := hp.ex
  unfold reWholeTarget
  refine wpAny_bind (wpAny_fieldsOf h1 h2 ?_)
  refine wpAny_bind (m := reTextOf (.str x t)) (wpAny_pure (a := (x.cps, 0)) ?_)
  dsimp only
  refine wpAny_bind (m := reNoCollectionInside (.str x t) 0) (wpAny_pure (a := ()) ?_)
  refine wpAny_bind (m := reRawItems (.ref ca)) (wpAny_bind (m := seqItems? (.ref ca)) (wpAny_bind (wpAny_load h4 ?_)))
  rw [h5]
  refine wpAny_pure (wpAny_pure ?_)
  have e : Array.map (fun (x : Int) => x.toNat) (Array.map reRawOf ((some (cdA.map fun (n : Nat) => Value.int (n : Int) 0)).getD #[])) = cdA := by decide +kernel
  rw [e]
  exact wpAny_pure h
theorem split_re {pa : Addr} {x : Str} {t : Tok} {ps : List (List Nat)} {Q : Value → Shared → Prop} (hp : PatAt s.heap pa) (hx : x.cps.toList = ps.flatten) (hc : Cut ps) (hs : x.cps.size ≤ 100000)
    (h : ∀ vs tk, StrsAre vs (spOut ps ++ [[]]) → Q (.ref s.heap.objs.size) { s with heap := s.heap.push { cls := .type "list", data := .seq vs.toArray }, toks := tk }) :
    wpAny M A (PySem.Builtin.«re.Pattern.split» ⟨[.ref pa, .str x t], []⟩) (fun fin s' => ∃ v, fin = .done (.ret v) ∧ Q v s') E s := by
  have hsize : x.cps.size = ps.flatten.length := by rw [← hx]; simp
  have hlen := hc.len
  unfold PySem.Builtin.«re.Pattern.split»
  dsimp only
  refine wpAny_bind (m := reNamed "re.Pattern.split" "split" ["string", "maxsplit"] 1 [.str x t] []) (wpAny_pure (a := [some (Value.str x t), none]) ?_)
  dsimp only
  refine wpAny_bind (wpAny_pure ?_)
  refine wpAny_bind (whole_target hp ?_)
  refine wpAny_bind ?_
  have z := wpAny_forIn_list (M := M) (A := A) (E := E) (s := s)
    (fun (x_1 : Nat) (__s : Array Value × Nat × Nat × Bool × Int × Bool) => (if (!__s.2.2.2.2.2) = true then do
        let __do_lift ← if ((0 : Int) != 0 && decide (__s.2.2.2.2.1 ≥ 0)) = true then pure none else reNextFound { pattern := Value.ref pa, string := Value.str x t, code := cdA, text := x.cps, kind := 0, groups := 1, pos := 0, lim := x.cps.size } __s.2.1 __s.2.2.2.1
        match __do_lift with
          | none => pure (ForInStep.yield (__s.1, __s.2.1, __s.2.2.1, __s.2.2.2.1, __s.2.2.2.2.1, true))
          | some m => do
            let __do_lift ← reSlice x.cps 0 __s.2.2.1 m.start
            let __s_1 ← forIn (List.range 1) (__s.1.push __do_lift) fun (g : Nat) (__s : Array Value) => do
                  let __do_lift ← reMachineGroup { pattern := Value.ref pa, string := Value.str x t, code := cdA, text := x.cps, kind := 0, groups := 1, pos := 0, lim := x.cps.size } m (g + 1) (pure Value.none)
                  pure (ForInStep.yield (__s.push __do_lift))
            pure (ForInStep.yield (__s_1, m.handed, m.handed, m.handed == m.start, __s.2.2.2.2.1 + 1, __s.2.2.2.2.2))
      else pure (ForInStep.yield (__s.1, __s.2.1, __s.2.2.1, __s.2.2.2.1, __s.2.2.2.2.1, __s.2.2.2.2.2)) : Sem (ForInStep (Array Value × Nat × Nat × Bool × Int × Bool))))
    (fun rest st s' => (st.2.2.2.2.2 = false ∧ ∃ done todo tk, ps = done ++ todo ∧ st.2.1 = done.flatten.length ∧ st.2.2.1 = done.flatten.length ∧ st.2.2.2.1 = false ∧ StrsAre st.1.toList (spOut done) ∧ s' = { s with toks := tk } ∧ todo.length < rest.length) ∨
      (st.2.2.2.2.2 = true ∧ ∃ tk, StrsAre st.1.toList (spOut ps) ∧ st.2.2.1 = ps.flatten.length ∧ s' = { s with toks := tk }))
    (fun st s' => st.2.2.2.2.2 = true ∧ ∃ tk, StrsAre st.1.toList (spOut ps) ∧ st.2.2.1 = ps.flatten.length ∧ s' = { s with toks := tk }) ?_ ?_ (List.range (2 * x.cps.size + 3)) (#[], 0, 0, false, 0, false) ?_
  · refine wpAny_mono z (fun st s' hst => ?_) fun _ _ e => e
    obtain ⟨out, start, last, must, n, over⟩ := st
    obtain ⟨ho, tk, hv, hl, rfl⟩ := hst
    dsimp only at ho hv hl ⊢
    subst ho hl
    rw [if_neg (by decide)]
    have e0 : x.cps.extract ps.flatten.length x.cps.size = ([] : List Nat).toArray := by
      rw [hsize]; apply Array.ext'; simp
    refine wpAny_bind (m := reSlice x.cps 0 ps.flatten.length x.cps.size) ?_
    show wpAny M A (mkStr ⟨x.cps.extract ps.flatten.length x.cps.size⟩) _ E _
    rw [e0]
    refine wpAny_mkStr ?_ (by show 0 ≤ sizeLine; decide)
    have hvs : StrsAre (out.push (.str ⟨([] : List Nat).toArray⟩ tk)).toList (spOut ps ++ [[]]) := by
      rw [Array.toList_push]; exact hv.append .one
    refine wpAny_bind (wpAny_newObj_type (wpAny_pure ⟨_, rfl, h _ _ hvs⟩) ?_)
    show (out.push _).toList.toArray.size ≤ sizeLine
    have := hvs.length
    rw [List.size_toArray, this, List.length_append, spOut_len, sizeLine_eq]
    simp only [List.length_cons, List.length_nil]
    omega
  · rintro i rest ⟨out, start, last, must, n, over⟩ s' hst
    dsimp only at hst ⊢
    rcases hst with ⟨rfl, done, todo, tk, hps, rfl, rfl, rfl, hv, rfl, hlt⟩ | ⟨rfl, tk, hv, rfl, rfl⟩
    · rw [if_pos (by decide)]
      have hlim : x.cps.size ≤ 16777216 := by omega
      refine wpAny_bind (m := reNextFound _ _ _) ?_
      show wpAny M A (reRunToEnd (Sre.forSearch cdA x.cps 1 done.flatten.length x.cps.size false)) _ E _
      cases todo with
      | nil =>
        rw [List.append_nil] at hps
        subst hps
        rw [← hsize]
        refine found_none ?_
        exact wpAny_pure (.inr ⟨rfl, tk, hv, rfl, rfl⟩)
      | cons q todo =>
        have hx' : x.cps.toList = done.flatten ++ q ++ todo.flatten := by rw [hx, hps]; simp
        have hcq : Cut (q :: todo) := Cut.drop (a := done) (hps ▸ hc)
        have hsz' : x.cps.size = done.flatten.length + q.length + todo.flatten.length := by
          have := congrArg List.length hx'; simpa [Nat.add_assoc] using this
        have hq1 : 0 < q.length := by
          rcases hcq.1 with ⟨c, rfl, _⟩ | ⟨⟨h, _⟩, _⟩
          · simp
          · exact List.length_pos_iff.mpr h
        have cont : ∀ m, Found done.flatten.length (done.flatten.length + q.length) m → wpAny M A (do
            let __do_lift ← reSlice x.cps 0 done.flatten.length m.start
            let __s_1 ← forIn (List.range 1) (out.push __do_lift) fun (g : Nat) (__s : Array Value) => do
                  let __do_lift ← reMachineGroup { pattern := Value.ref pa, string := Value.str x t, code := cdA, text := x.cps, kind := 0, groups := 1, pos := 0, lim := x.cps.size } m (g + 1) (pure Value.none)
                  pure (ForInStep.yield (__s.push __do_lift))
            pure (ForInStep.yield (__s_1, m.handed, m.handed, m.handed == m.start, n + 1, false)))
            (fun r s' => match r with | .yield b' => (b'.2.2.2.2.2 = false ∧ ∃ done todo tk, ps = done ++ todo ∧ b'.2.1 = done.flatten.length ∧ b'.2.2.1 = done.flatten.length ∧ b'.2.2.2.1 = false ∧ StrsAre b'.1.toList (spOut done) ∧ s' = { s with toks := tk } ∧ todo.length < rest.length) ∨
      (b'.2.2.2.2.2 = true ∧ ∃ tk, StrsAre b'.1.toList (spOut ps) ∧ b'.2.2.1 = ps.flatten.length ∧ s' = { s with toks := tk }) | .done b' => b'.2.2.2.2.2 = true ∧ ∃ tk, StrsAre b'.1.toList (spOut ps) ∧ b'.2.2.1 = ps.flatten.length ∧ s' = { s with toks := tk }) E { s with toks := tk } := by
          rintro m ⟨m1, m2, m3, m4⟩
          rw [m1, m2]
          have e0 : x.cps.extract done.flatten.length done.flatten.length = ([] : List Nat).toArray := by
            apply Array.ext'; simp
          refine wpAny_bind (m := reSlice x.cps 0 done.flatten.length done.flatten.length) ?_
          show wpAny M A (mkStr ⟨x.cps.extract done.flatten.length done.flatten.length⟩) _ E _
          rw [e0]
          refine wpAny_mkStr ?_ (by show 0 ≤ sizeLine; decide)
          refine wpAny_bind ?_
          show wpAny M A (forIn [0] _ _) _ E _
          rw [List.forIn_cons]
          refine wpAny_bind (wpAny_bind (m := reMachineGroup _ m 1 _) ?_)
          have eg : reMachineGroup { pattern := Value.ref pa, string := Value.str x t, code := cdA, text := x.cps, kind := 0, groups := 1, pos := 0, lim := x.cps.size } m 1 (pure Value.none) = mkStr ⟨q.toArray⟩ := by
            unfold reMachineGroup
            rw [m3, m4, ← extract_at hx']
            show (if ((0 : Nat) : Int) ≥ 1 then _ else (if done.flatten.length + q.length < done.flatten.length then _ else _)) = _
            rw [if_neg (by decide), if_neg (by omega)]
            rfl
          rw [eg]
          refine wpAny_mkStr ?_ (by rw [sizeLine_eq]; show q.toArray.size ≤ _; rw [List.size_toArray]; omega)
          refine wpAny_pure ?_
          dsimp only
          rw [List.forIn_nil]
          refine wpAny_pure (wpAny_pure ?_)
          refine .inl ⟨rfl, done ++ [q], todo, _, by rw [hps]; simp, by simp, by simp, ?_, ?_, rfl, by simpa using Nat.lt_of_succ_lt_succ hlt⟩
          · show (done.flatten.length + q.length == done.flatten.length) = false
            exact beq_eq_false_iff_ne.mpr (by omega)
          · rw [spOut_snoc]
            show StrsAre (Array.push (Array.push _ _) _).toList _
            rw [Array.toList_push, Array.toList_push, List.append_assoc]
            exact hv.append (.cons (.cons .nil))
        rcases hcq.1 with ⟨c, rfl, hcs⟩ | ⟨⟨_, hdg⟩, hnext⟩
        · refine found_sep (by simp only [List.length_cons, List.length_nil] at hsz'; omega) hlim ?_ ?_
          · have := getD_at hx' (j := 0) (by simp)
            rw [Nat.add_zero] at this
            rw [this]; exact hcs
          · intro m hm
            exact wpAny_mono (cont m hm) (fun r s' hr => by cases r <;> exact hr) fun _ _ e => e
        · refine found_digs hq1 (by omega) hlim (fun j hj => ?_) ?_ ?_
          · rw [getD_at hx' hj]; exact hdg _ (List.getElem_mem _)
          · cases hf : todo.flatten with
            | nil => left; rw [hf] at hsz'; simpa using hsz'.symm
            | cons c r =>
              right
              have hx2 : x.cps.toList = (done.flatten ++ q) ++ (c :: r) ++ [] := by rw [hx', hf]; simp
              have := getD_at hx2 (j := 0) (by simp)
              rw [Nat.add_zero, List.length_append] at this
              rw [this]
              exact hnext c (by rw [hf]; rfl)
          · intro m hm
            exact wpAny_mono (cont m hm) (fun r s' hr => by cases r <;> exact hr) fun _ _ e => e
    · rw [if_neg (by decide)]
      exact wpAny_pure (.inr ⟨rfl, tk, hv, rfl, rfl⟩)
  · intro st s' hst
    rcases hst with ⟨_, _, _, _, _, _, _, _, _, _, hlt⟩ | hst
    · exact absurd hlt (by simp)
    · exact hst
  · refine .inl ⟨rfl, [], ps, s.toks, rfl, rfl, rfl, rfl, .nil, rfl, ?_⟩
    simp only [List.length_range]
    omega
end
end Mine
end
section
open PySem PySem.W PyProof.Rows PySem.Calls PySem.Spec PySem.NumText
set_option maxRecDepth 100000
set_option maxHeartbeats 4000000
namespace Mine
theorem gives_text10 {x : PySem.Str} {u t : Tok} {n : Int} (hl : x.length ≤ 640) (hn : PySem.intText? x = some n) : Gives (Builtin.«int.__new__» ⟨[.type "int", .str x u, .int 10 t], []⟩) (.int n) :=
  .of_wp fun M A E s Q h => by
    obtain ⟨hp, g, d, tk, os⟩ := s
    have f1 := F.conv_sub_int
    have f2 := F.madeHere_int
    have f6 : typeOf (.str x u) = pure (.type "str") := rfl
    have hs : (numSeenOf x).length ≤ 640 := Nat.le_trans (seen_length x) hl
    have hr : (int_private% "readNumeral") 0 10 (numSeenOf x) = (int_private% "Numeral.value") n ∧ ((numSeenOf x).length == (numTextOf x).length) = true := by
      rcases read0 x hs with ⟨m, h1, h2, h3⟩ | ⟨h1, _⟩
      · rw [hn] at h1
        injection h1 with h1
        subst h1
        exact ⟨h3, h2⟩
      · rw [hn] at h1
        cases h1
    have hk := KIN.Hid.mk (And.intro hs hr)
    clear hs hr hl hn
    repeat (any_goals (first
      | assumption
      | ((with_reducible show wpAny _ _ ((int_private% "intFromText") _ _ _) _ _ _); refine KIN.wp_text hk.out.1 hk.out.2.1 hk.out.2.2 ?_)
      | wp_step))
    all_goals first | exact ⟨_, rfl, h⟩ | skip
theorem typeCall_int_2 (a b : Value) : checkTypeCall "int" ⟨[a, b], []⟩ = pure () := by kernel_rfl
theorem newCall_int_2 (a b : Value) : checkBuiltinCall "int.__new__" ⟨[.type "int", a, b], []⟩ = pure () := by kernel_rfl
theorem args_object_init_3 (a b c : Value) : argsOk "object.__init__" ⟨[a, b, c], []⟩ := by kernel_rfl
theorem call_text10 {prog : Program} {w : World} {A : Around} {E : Value → Shared → Prop} {s : Shared} {Q : Value → Shared → Prop} {x : PySem.Str} {t u : Tok} {n : Int} (hn : PySem.intText? x = some n) (hl : x.length ≤ 640) (h : Q (.int n s.toks) { s with toks := s.toks + 1 }) :
    wpAny (model prog w) A (call (.type "int") [.str x t, .int 10 u]) Q E s :=
  callType_new F.called_int F.newNe_int (typeCall_int_2 _ _) (newCall_int_2 _ _) (fun obj => args_object_init_3 obj _ _) F.entry_int_new (gives_text10 hl hn).meets (show (Made.int n).post _ s from ⟨rfl, h⟩)
end Mine
end
section
open PySem PySem.W PyProof.Rows PySem.Calls PySem.Spec
set_option maxRecDepth 100000
set_option maxHeartbeats 4000000
namespace Mine
/-- a frame's map with one name more -/
def up (m : Str → Option Value) (x : Str) (v : Value) : Str → Option Value := fun y => if y = x then some v else m y
def m0 : Str → Option Value := fun _ => none
theorem up_eq {m : Str → Option Value} {x : Str} {v : Value} : up m x v x = some v := if_pos rfl
theorem up_of {m : Str → Option Value} {x y : Str} {v : Value} {r : Option Value} (e : m y = r) (h : (y == x) = false := by decide) : up m x v y = r := (if_neg (fun q => by rw [q] at h; simp at h)).trans e
theorem look_up (l : List (Str × Value)) (x : Str) (v : Value) : (fun y => List.lookup y ((x, v) :: l)) = up (fun y => List.lookup y l) x v := by
  funext y
  simp only [List.lookup_cons, up]
  by_cases h : y = x
  · simp [h]
  · have hb : (y == x) = false := beq_eq_false_iff_ne.mpr h
    simp [h, hb]
theorem bm1 {a : Str} {v : Value} : (fun y => List.lookup y [(a, v)].reverse) = up m0 a v := look_up [] a v
theorem bm2 {a b : Str} {v u : Value} : (fun y => List.lookup y [(a, v), (b, u)].reverse) = up (up m0 a v) b u := by
  show (fun y => List.lookup y [(b, u), (a, v)]) = _
  rw [look_up, look_up]; rfl
theorem bm3 {a b c : Str} {v u z : Value} : (fun y => List.lookup y [(a, v), (b, u), (c, z)].reverse) = up (up (up m0 a v) b u) c z := by
  show (fun y => List.lookup y [(c, z), (b, u), (a, v)]) = _
  rw [look_up, look_up, look_up]; rfl
theorem stU {M : Model} {A : Around} {E : Value → Shared → Prop} {s : Shared} {name : Str} {scope : Scope} {L a : Addr} {cd : Value} {h₀ : Heap} {m : Str → Option Value} {news : List (Addr × Obj)} {x : Str} {v : Value} {Q : Unit → Shared → Prop} (F : Fr h₀ L s.heap m) (N : News h₀ L s.heap news)
    (h : ∀ h', Fr h₀ L h' (up m x v) → News h₀ L h' news → Heap.SameBut L s.heap h' → Q () { s with heap := h', toks := s.toks + 1 })
    (hk : scope.kind = .function := by rfl) (hl : (envOf name scope L a cd).kindOf x = some .local := by rfl) :
    wpAny M A (storeName (envOf name scope L a cd) x v) Q E s :=
  wpAny_storeName_local hl F.ns (fun h' hn hs => h h' (F.set hn hs) (N.set hs) hs)
    (by show (scope.kind == .class || (scope.kind == .module && L != mainGlobals)) = false; rw [hk]; rfl)
abbrev Keep (h h' : Heap) : Prop := ∀ b o, h.get? b = some o → h'.get? b = some o
theorem News.keep {h₀ h h' : Heap} {L : Addr} {nx : List (Addr × Obj)} (N : News h₀ L h nx) (hk : ∀ p ∈ nx, ∀ o, h.get? p.1 = some o → h'.get? p.1 = some o) : News h₀ L h' nx :=
  fun p hp => ⟨hk p hp _ (N p hp).1, (N p hp).2⟩
def TurnEnd (h₀ : Heap) (L : Addr) (R : Result → Shared → Prop) (J : (Str → Option Value) → List (Addr × Obj) → Array GenState → Prop) (wr mt : List Addr) (h : Heap) (s : Shared) (f : Flow) (s' : Shared) : Prop := match f with
  | .ret v => R (.ok (.ret v)) s'
  | .brk => R (.ok .next) s'
  | _ => ∃ h' tk' g' m₂ nx₂, s' = { s with heap := h', toks := tk', gens := g' } ∧ Fr h₀ L h' m₂ ∧ News h₀ L h' nx₂ ∧ J m₂ nx₂ g' ∧ (∀ p ∈ nx₂, p.1 ∉ wr) ∧ (∀ b o, b ≠ L → b ∉ mt → h.get? b = some o → h'.get? b = some o)
section
variable {prog : Program} {w : World} {A : Around} {R : Result → Shared → Prop} {s : Shared} {env : Env} {h₀ : Heap} {x : Str} {px : Pos} {body : List Stmt} {I : Addr} {fp wr mt : List Addr} {n : Nat} {P : Nat → Value → Prop} {St : Nat → Heap → Prop}
theorem for_walk {m₀ : Str → Option Value} {news : List (Addr × Obj)} (W : Walks prog w A I fp wr n P St) (hex : ∀ i h, St i h → ∀ b ∈ wr, ∃ o, h.get? b = some o)
    (J : Nat → (Str → Option Value) → List (Addr × Obj) → Array GenState → Prop) (mt : List Addr)
    (hLf : env.locals ∉ fp) (hmf : ∀ a ∈ mt, a ∉ fp) (hw0 : ∀ b ∈ wr, h₀.get? b = none)
    (F : Fr h₀ env.locals s.heap m₀) (N : News h₀ env.locals s.heap news) (hst : St 0 s.heap) (hJ : J 0 m₀ news s.gens) (hnw : ∀ p ∈ news, p.1 ∉ wr)
    (turn : ∀ i v m₁ nx h tk g, i < n → P i v → J i m₁ nx g → Fr h₀ env.locals h (up m₁ x v) → News h₀ env.locals h nx → (∀ p ∈ nx, p.1 ∉ wr) → (∀ b ∈ wr, ∃ o, h.get? b = some o) → ∀ E',
      wpAny (model prog w) A (execs body env) (TurnEnd h₀ env.locals R (J (i + 1)) wr mt h s) E' { s with heap := h, toks := tk, gens := g })
    (done : ∀ m₁ nx h tk g, J n m₁ nx g → Fr h₀ env.locals h m₁ → News h₀ env.locals h nx → (∀ p ∈ nx, p.1 ∉ wr) → R (.ok .next) { s with heap := h, toks := tk, gens := g })
    (hkx : env.kindOf x = some .local := by rfl) (hp : (env.scope.kind == .class || (env.scope.kind == .module && env.locals != env.globals)) = false := by rfl) :
    codeAny (model prog w) A (.forLoop (.Name x px) (.ref I) body [] env) R s := by
  have hLw : env.locals ∉ wr := fun q => hLf (W.sub _ q)
  refine codeAny_forLoop (fun k s' => ∃ i h tk g m₁ nx, s' = { s with heap := h, toks := tk, gens := g } ∧ i ≤ n ∧ k = n + 1 - i ∧ St i h ∧ J i m₁ nx g ∧ Fr h₀ env.locals h m₁ ∧ News h₀ env.locals h nx ∧ (∀ p ∈ nx, p.1 ∉ wr)) ?_ (n + 1)
    ⟨0, s.heap, s.toks, s.gens, m₀, news, rfl, Nat.zero_le _, rfl, hst, hJ, F, N, hnw⟩
  rintro k s' ⟨i, h, tk, g, m₁, nx, rfl, hi, rfl, hsti, hJi, Fi, Ni, hni⟩
  by_cases hlt : i < n
  · refine W.item i _ _ _ hlt hsti fun v h₁ tk₁ hP hst₁ hk₁ => ?_
    have F₁ : Fr h₀ env.locals h₁ m₁ := ⟨Fi.ns.at' fun o e => hk₁ _ o hLw e, fun b o e => hk₁ b o (fun q => by rw [hw0 b q] at e; cases e) (Fi.keep b o e), Fi.above⟩
    have N₁ : News h₀ env.locals h₁ nx := News.keep Ni fun p hp o e => hk₁ _ _ (hni p hp) e
    refine wpAny_assign_Name (wpAny_storeName_local hkx F₁.ns (fun h₂ hn₂ hs₂ => ?_) hp)
    have F₂ : Fr h₀ env.locals h₂ (up m₁ x v) := F₁.set hn₂ hs₂
    have N₂ : News h₀ env.locals h₂ nx := N₁.set hs₂
    have st₂ : St (i + 1) h₂ := W.frame _ _ _ hst₁ fun b hb o e => hs₂.extBut b o (fun q => hLf (q ▸ hb)) e
    refine wpAny_mono (turn i v m₁ nx h₂ (tk₁ + 1) g hlt hP hJi F₂ N₂ hni (hex _ _ st₂) _) (fun f s₃ ht => ?_) fun _ _ e => e
    have fin : (∃ h' tk' g' m₂ nx₂, s₃ = { s with heap := h', toks := tk', gens := g' } ∧ Fr h₀ env.locals h' m₂ ∧ News h₀ env.locals h' nx₂ ∧ J (i + 1) m₂ nx₂ g' ∧ (∀ p ∈ nx₂, p.1 ∉ wr) ∧ (∀ b o, b ≠ env.locals → b ∉ mt → h₂.get? b = some o → h'.get? b = some o)) →
        ∃ m, m < n + 1 - i ∧ ∃ i h tk g m₁ nx, s₃ = { s with heap := h, toks := tk, gens := g } ∧ i ≤ n ∧ m = n + 1 - i ∧ St i h ∧ J i m₁ nx g ∧ Fr h₀ env.locals h m₁ ∧ News h₀ env.locals h nx ∧ (∀ p ∈ nx, p.1 ∉ wr) := by
      rintro ⟨h', tk', g', m₂, nx₂, rfl, F', N', hJ', hn', hk'⟩
      exact ⟨n + 1 - (i + 1), by omega, i + 1, h', tk', g', m₂, nx₂, rfl, hlt, rfl, W.frame _ _ _ st₂ fun b hb o e => hk' b o (fun q => hLf (q ▸ hb)) (fun q => hmf b q hb) e, hJ', F', N', hn'⟩
    cases f with
    | ret v => exact ht
    | brk => exact ht
    | next => exact fin ht
    | cont => exact fin ht
  · obtain rfl : i = n := by omega
    refine W.done _ _ _ hsti fun h₁ tk₁ hk₁ => wpAny_execs_nil ?_
    exact done m₁ nx h₁ tk₁ g hJi ⟨Fi.ns.at' fun o e => hk₁ _ o hLw e, fun b o e => hk₁ b o (fun q => by rw [hw0 b q] at e; cases e) (Fi.keep b o e), Fi.above⟩ (News.keep Ni fun p hp o e => hk₁ _ _ (hni p hp) e) hni
end
end Mine
end
section
open PySem PySem.W PyProof.Rows PySem.Calls PySem.Spec
set_option maxRecDepth 100000
set_option maxHeartbeats 4000000
namespace Mine
def bnames : List Str := ["int", "ValueError", "len", "range", "min", "max", "sum", "str", "zip", "type"]
/-- what the top has left, as far as the law's call reads it -/
structure Wd (mg mb : Str → Option Value) (h : Heap) : Prop where
  g : h.Ns mainGlobals mg
  b : h.Ns builtinsNs mb
  lim : h.NoLimit
  bi : ∀ x : Str, x ≠ "__name__" → mb x = bootBuiltins x
  nob : ∀ x ∈ bnames, mg x = none
  char : ∃ t, mg "CHAR_MAX" = some (.int 127 t)
  re : mg "_twin_re_1" = some (.ref 50)
  pat : PatAt h 50
  coll : mg "_strcoll" = some (.ref 38)
  fcoll : FnIs h 38 "_strcoll" 2
  grp : mg "_grouping_intervals" = some (.ref 45)
  fgrp : FnIs h 45 "_grouping_intervals" 4
  cv : mg "_comparable_version" = some (.ref 58)
  fcv : FnIs h 58 "_comparable_version" 8
theorem Wd.keeps {mg mb : Str → Option Value} {h h' : Heap} (x : Wd mg mb h) (hk : Keep h h') : Wd mg mb h' where
  g := x.g.keeps hk
  b := x.b.keeps hk
  lim := x.lim.keeps hk
  bi := x.bi
  nob := x.nob
  char := x.char
  re := x.re
  pat := x.pat.keeps hk
  coll := x.coll
  fcoll := x.fcoll.keeps hk
  grp := x.grp
  fgrp := x.fgrp.keeps hk
  cv := x.cv
  fcv := x.fcv.keeps hk
section
variable {M : Model} {A : Around} {E : Value → Shared → Prop} {s : Shared} {env : Env} {mg mb : Str → Option Value} {Q : Value → Shared → Prop}
/-- a global of the text -/
theorem ldG {x : Str} {pos : Pos} {v : Value} (W : Wd mg mb s.heap) (hv : mg x = some v) (h : Q v s) (hg : env.globals = mainGlobals := by rfl) (hk : env.scope.kind = .function := by rfl) (hx : env.kindOf x = some .globalImplicit := by rfl) (hd : (x == ("__debug__" : Str)) = false := by decide) :
    wpAny M A (eval (.Name x pos) env) Q E s := Name_function_global hk hx (loadGlobal_global (hg ▸ W.g) hv h) hd
/-- a built-in name -/
theorem ldB {x : Str} {pos : Pos} {v : Value} (W : Wd mg mb s.heap) (hv : bootBuiltins x = some v) (h : Q v s) (hm : x ∈ bnames := by decide) (hn : x ≠ "__name__" := by decide) (hg : env.globals = mainGlobals := by rfl) (hb : env.builtins = builtinsNs := by rfl)
    (hk : env.scope.kind = .function := by rfl) (hx : env.kindOf x = some .globalImplicit := by rfl) (hd : (x == ("__debug__" : Str)) = false := by decide) :
    wpAny M A (eval (.Name x pos) env) Q E s := Name_function_global hk hx (loadGlobal_builtin (hg ▸ W.g) (W.nob x hm) (hb ▸ W.b) ((W.bi x hn).trans hv) h) hd
/-- a local name of any env -/
theorem ldE {x : Str} {pos : Pos} {m : Str → Option Value} {v : Value} (hn : s.heap.Ns env.locals m) (hv : m x = some v) (h : Q v s) (hk : env.scope.kind = .function := by rfl) (hl : env.kindOf x = some .local := by rfl) (hd : (x == ("__debug__" : Str)) = false := by decide) :
    wpAny M A (eval (.Name x pos) env) Q E s := wpAny_Name (wpAny_loadName_local hk hl hn hv h) hd
end
section
variable {M : Model} {A : Around} {E : Value → Shared → Prop} {s : Shared} {env : Env}
theorem cwT {pos : Pos} {T : String} {e : Expr} {rest : List Expr} {Q : Value → Shared → Prop}
    (h : wpAny M A (spliced (backTo pos (starEach (e :: rest) env))) (fun vs s₁ => wpAny M A (call (.type T) vs) Q E s₁) E s)
    (he : starEach (e :: rest) env = (false, eval e env) :: starEach rest env := by exact Eq.refl _)
    (hplain : (backTo pos (starEach rest env)).any (·.1) = false := by exact Eq.refl false) :
    wpAny M A (callWith pos (.type T) [] (backTo pos (starEach (e :: rest) env)) []) Q E s := callWith_type1 h he hplain
theorem cwB {pos : Pos} {id : String} {e : Expr} {rest : List Expr} {Q : Value → Shared → Prop}
    (h : wpAny M A (spliced (backTo pos (starEach (e :: rest) env))) (fun vs s₁ => wpAny M A (call (.builtin id) vs) Q E s₁) E s)
    (he : starEach (e :: rest) env = (false, eval e env) :: starEach rest env := by exact Eq.refl _)
    (hplain : (backTo pos (starEach rest env)).any (·.1) = false := by exact Eq.refl false) :
    wpAny M A (callWith pos (.builtin id) [] (backTo pos (starEach (e :: rest) env)) []) Q E s := callWith_builtin1 h he hplain
end
theorem boot_int : bootBuiltins "int" = some (.type "int") := by decide +kernel
abbrev lobj (vs : List Value) (n : Nat) : Obj := { cls := .type "list", data := .seq vs.toArray n }
abbrev tobj (vs : List Value) : Obj := { cls := .type "tuple", data := .seq vs.toArray }
section
variable {M : Model} {A : Around} {E : Value → Shared → Prop} {s : Shared} {Q : Value → Shared → Prop}
theorem newTup {vs : List Value} (h : Q (.ref s.heap.objs.size) { s with heap := s.heap.push (tobj vs) }) (hsz : vs.length ≤ 10000 := by simp) : wpAny M A (newTuple vs) Q E s :=
  wpAny_newObj_type h (by show vs.toArray.size ≤ sizeLine; rw [List.size_toArray, sizeLine_eq]; omega)
theorem newLst {vs : List Value} (h : Q (.ref s.heap.objs.size) { s with heap := s.heap.push (lobj vs 0) }) (hsz : vs.length ≤ 10000 := by simp) : wpAny M A (newList vs) Q E s :=
  wpAny_newObj_type h (by show vs.toArray.size ≤ sizeLine; rw [List.size_toArray, sizeLine_eq]; omega)
end
theorem Keep.push (h : Heap) (o : Obj) : Keep h (h.push o) := fun _ _ e => Heap.get?_push_of_some _ e
theorem Keep.trans {a b c : Heap} (x : Keep a b) (y : Keep b c) : Keep a c := fun _ _ e => y _ _ (x _ _ e)
section
variable {prog : Program} {w : World} {A : Around} {E : Value → Shared → Prop} {s : Shared} {env : Env} {h₀ : Heap}
theorem for_list {R : Result → Shared → Prop} {x : Str} {px : Pos} {body : List Stmt} {m₀ : Str → Option Value} {news : List (Addr × Obj)} {l : Addr} {items : Array Value} (hh : A.handled = none) (hl : s.heap.IsList l items)
    (J : Nat → (Str → Option Value) → List (Addr × Obj) → Array GenState → Prop) (mt : List Addr) (hlm : l ∉ mt) (hlL : l ≠ env.locals) (hmt : ∀ a ∈ mt, a < s.heap.objs.size)
    (F : Fr h₀ env.locals s.heap m₀) (N : News h₀ env.locals s.heap news) (hJ : J 0 m₀ news s.gens)
    (turn : ∀ I i v m₁ nx h tk g, items[i]? = some v → J i m₁ nx g → Fr h₀ env.locals h (up m₁ x v) → News h₀ env.locals h nx → (∀ p ∈ nx, p.1 ≠ I) → I < h.objs.size → I ≠ env.locals → I ∉ mt → ∀ E',
      wpAny (model prog w) A (execs body env) (TurnEnd h₀ env.locals R (J (i + 1)) [I] mt h s) E' { s with heap := h, toks := tk, gens := g })
    (done : ∀ m₁ nx h tk g, J items.size m₁ nx g → Fr h₀ env.locals h m₁ → News h₀ env.locals h nx → R (.ok .next) { s with heap := h, toks := tk, gens := g })
    (hkx : env.kindOf x = some .local := by rfl) (hp : (env.scope.kind == .class || (env.scope.kind == .module && env.locals != env.globals)) = false := by rfl) :
    wpAny (model prog w) A (pyIter (.ref l)) (fun it s₂ => codeAny (model prog w) A (.forLoop (.Name x px) it body [] env) R s₂) E s := by
  refine wpAny_pyIter_list hl ?_
  obtain ⟨ol, hol, _⟩ := id hl
  have hlI : l ≠ s.heap.objs.size := Nat.ne_of_lt (Heap.lt_size hol)
  have hLI : env.locals ≠ s.heap.objs.size := Nat.ne_of_lt F.ns.lt
  have hIm : s.heap.objs.size ∉ mt := fun q => Nat.lt_irrefl _ (hmt _ q)
  refine for_walk (Walks.list hh s.heap.objs.size l hlI items) (fun i h st b hb => ?_) J mt ?_ ?_ ?_ (F.push _) (fun p hp => ⟨Heap.get?_push_of_some _ (N p hp).1, (N p hp).2⟩) ⟨⟨_, Heap.get?_push_size _ rfl, rfl, rfl⟩, hl.push _⟩ hJ ?_ ?_ ?_ hkx hp
  · obtain ⟨o, ho, _⟩ := st.1
    exact ⟨o, (List.mem_singleton.mp hb) ▸ ho⟩
  · intro q
    rcases List.mem_cons.mp q with e | q
    · exact hLI e
    · exact hlL (List.mem_singleton.mp q).symm
  · intro a ha q
    rcases List.mem_cons.mp q with e | q
    · exact hIm (e ▸ ha)
    · exact hlm ((List.mem_singleton.mp q) ▸ ha)
  · intro b hb
    rw [List.mem_singleton.mp hb]
    cases q : h₀.get? s.heap.objs.size with
    | none => rfl
    | some o => exact absurd (Heap.lt_size (F.keep _ _ q)) (Nat.lt_irrefl _)
  · intro p hp q
    exact absurd (Heap.lt_size (N p hp).1) ((List.mem_singleton.mp q) ▸ Nat.lt_irrefl _)
  · intro i v m₁ nx h tk g hi hP hJi Fi Ni hni hx E'
    obtain ⟨o, ho⟩ := hx _ (List.mem_singleton.mpr rfl)
    exact turn _ i v m₁ nx h tk g hP hJi Fi Ni (fun p hp e => hni p hp (List.mem_singleton.mpr e)) (Heap.lt_size ho) (Ne.symm hLI) hIm E'
  · intro m₁ nx h tk g hJn Fn Nn _
    exact done m₁ nx h tk g hJn Fn Nn
end
end Mine
end
section
open PySem PySem.W PyProof.Rows PySem.Calls PySem.Spec PySem.NumText
set_option maxRecDepth 100000
set_option maxHeartbeats 4000000
namespace Mine
theorem slot_split : Slot "re.Pattern" "split" "re.Pattern.split" :=
  .of (owner := "re.Pattern") (n := "split") (by rw [typeLookup_type, builtinLookup_eq_fast]; kernel_rfl) (by decide +kernel) (by decide +kernel) (by decide +kernel)
    (by first | exact .inl (by decide +kernel) | exact .inr (by decide +kernel)) (by rw [isSubtype_type]; kernel_rfl)
theorem entry_split : entryFor table "re.Pattern.split" = some Builtin.«re.Pattern.split» := entryFor_of_tree (by kernel_rfl)
theorem args_split (a b : Value) : argsOk "re.Pattern.split" ⟨[a, b], []⟩ := by kernel_rfl
theorem plain_pat : PlainAttrs "re.Pattern" := ⟨⟨"object.__getattribute__", by rw [typeLookup_type, builtinLookup_eq_fast]; kernel_rfl, by decide +kernel⟩, by rw [typeLookup_type, builtinLookup_eq_fast]; kernel_rfl⟩
theorem ty_split : typeOf (.builtin "re.Pattern.split") = pure (.type "method_descriptor") := by kernel_rfl
theorem meets_split {pa : Addr} {x : Str} {t : Tok} {ps : List (List Nat)} (hx : x.cps.toList = ps.flatten) (hc : Cut ps) (hs : x.cps.size ≤ 100000) :
    Meets (Builtin.«re.Pattern.split» ⟨[.ref pa, .str x t], []⟩) (fun _ R s => PatAt s.heap pa ∧ ∀ vs tk, StrsAre vs (spOut ps ++ [[]]) → R (.ok (.ret (.ref s.heap.objs.size))) { s with heap := s.heap.push { cls := .type "list", data := .seq vs.toArray }, toks := tk }) :=
  .of_wp fun prog w A R s h => split_re h.1 hx hc hs h.2
section
variable {prog : Program} {w : World} {A : Around} {E : Value → Shared → Prop} {s : Shared} {env : Env}
/-- a method of a built-in type, one argument -/
theorem meth1 {o e : Expr} {name : Str} {apos pos : Pos} {T id : String} {B : Builtin} {Q : Value → Shared → Prop} (pa : PlainAttrs T) (slot : Slot T name id) (hty : typeOf (.builtin id) = pure (.type "method_descriptor")) (entry : entryFor table id = some B)
    (h : wpAny (model prog w) A (eval o env) (fun ov s₁ => s₁.TypeIs ov T ∧ (∀ a, ov = .ref a → ∃ ob, s₁.heap.get? a = some ob ∧ ob.dict = none) ∧
      wpAny (model prog w) A (eval e env) (fun v s₂ => s₂.TypeIs ov T ∧ argsOk id ⟨[ov, v], []⟩ ∧ ∃ S, Meets (B ⟨[ov, v], []⟩) S ∧ S A (wants Q E) s₂) E s₁) E s)
    (hbase : attributeBase o name env (eval o env) = eval o env := by rfl)
    (hfew : ((backTo pos (starEach [e] env)).all (fun x => !x.1) && (backToKw pos (keywordEach [] env)).all (fun x => x.1.isSome)
      && decide ([e].length + ([] : List Keyword).length + (if ([] : List Keyword).isEmpty then 0 else 1) < 30)) = true := by rfl)
    (hline : (apos.endLine == pos.line) = true := by rfl) (he : starEach [e] env = [(false, eval e env)] := by rfl) :
    wpAny (model prog w) A (eval (.Call (.Attribute o name apos) [e] [] pos) env) Q E s := by
  refine wpAny_Call_method hbase hfew hline pa slot hty (wpAny_mono h (fun ov s₁ h₁ => ⟨h₁.1, h₁.2.1, ?_⟩) fun _ _ x => x)
  refine method_meets slot entry (by rw [he]; rfl) ?_
  rw [he]
  exact evalArgs_plain (spliced_cons (wpAny_mono h₁.2.2 (fun v s₂ h₂ => spliced_nil ⟨rfl, h₂⟩) fun _ _ x => x))
end
end Mine
end
section
open PySem PySem.W PyProof.Rows PySem.Calls PySem.Spec PySem.NumText
set_option maxRecDepth 100000
set_option maxHeartbeats 4000000
namespace Mine
local macro_rules | `(tactic| walk_at "lk") => `(tactic| (repeat (first | exact up_eq | assumption | refine up_of ?_ (by decide))))
theorem ty_extend : typeOf (.builtin "list.extend") = pure (.type "method_descriptor") := by kernel_rfl
def dgB : List Nat → Bool
  | [] => false
  | c :: _ => decide (48 ≤ c ∧ c ≤ 57)
def outOf (q : List Nat) : List Int := if dgB q = true then [100, (digitsVal q : Nat)] else []
def cvOut (ps : List (List Nat)) : List Int := ps.flatMap outOf
theorem out_items (ps : List (List Nat)) : (spOut ps ++ [[]]).flatMap outOf = cvOut ps := by
  induction ps with
  | nil => rfl
  | cons q r ih =>
    simp only [spOut, cvOut, List.flatMap_cons, List.cons_append, List.nil_append, List.flatMap_append] at *
    show outOf [] ++ (outOf q ++ _) = _
    rw [ih]
    rfl
/-- an item of what split gives: nothing, a separator, a run of figures -/
def itemOk (q : List Nat) : Prop := q = [] ∨ sepP q ∨ digP q
theorem items_ok {ps : List (List Nat)} (hc : Cut ps) : ∀ q ∈ spOut ps ++ [[]], itemOk q := by
  induction ps with
  | nil => intro q hq; simp [spOut] at hq; exact .inl hq
  | cons p r ih =>
    intro q hq
    have : q = [] ∨ q = p ∨ q ∈ spOut r ++ [[]] := by
      simp only [spOut, List.flatMap_cons, List.mem_append, List.mem_cons, List.not_mem_nil, or_false] at hq ⊢
      rcases hq with ((h | h) | h) | h
      · exact .inl h
      · exact .inr (.inl h)
      · exact .inr (.inr (.inl h))
      · exact .inl h
    rcases this with h | rfl | h
    · exact .inl h
    · exact .inr (hc.1.imp id fun h => h.1)
    · exact ih hc.2 q h
theorem sep_out {q : List Nat} (h : sepP q) : dgB q = false := by
  obtain ⟨c, rfl, hc⟩ := h
  rcases hc with rfl | rfl | rfl | rfl <;> rfl
theorem dig_out {q : List Nat} (h : digP q) : dgB q = true := by
  obtain ⟨hne, hd⟩ := h
  cases q with
  | nil => exact absurd rfl hne
  | cons c r => exact decide_eq_true (hd c (.head _))
theorem in_signs {q : List Nat} (h : itemOk q) : (!(Builtin.Str.occurrences "._+-" ⟨q.toArray⟩ 0 (Str.length "._+-") 1).isEmpty) = !dgB q := by
  rcases h with rfl | h | h
  · decide +kernel
  · rw [sep_out h]
    obtain ⟨c, rfl, hc⟩ := h
    rcases hc with rfl | rfl | rfl | rfl <;> decide +kernel
  · rw [dig_out h]
    obtain ⟨hne, hd⟩ := h
    cases q with
    | nil => exact absurd rfl hne
    | cons c r =>
      have hc := hd c (.head _)
      rw [Bool.not_true, ← Bool.not_eq_true, StrLaws.found_iff]
      rintro ⟨i, h1, h2⟩
      rw [StrLaws.subAt_eq] at h2
      have h3 : ((("._+-" : Str).cps.toList.drop i).take (c :: r).length) = c :: r := by simpa [Str.length] using h2
      have h4 : c ∈ ("._+-" : Str).cps.toList := List.mem_of_mem_drop (List.mem_of_mem_take (h3 ▸ List.Mem.head _))
      have h5 : ("._+-" : Str).cps.toList = [46, 95, 43, 45] := by decide +kernel
      rw [h5] at h4
      unfold isDig at hc
      simp at h4
      omega
theorem StrsAre.get {vs : List Value} {qs : List (List Nat)} (h : StrsAre vs qs) {i : Nat} {v : Value} (e : vs[i]? = some v) : ∃ q t, qs[i]? = some q ∧ v = .str ⟨q.toArray⟩ t := by
  induction h generalizing i with
  | nil => simp at e
  | cons _ ih =>
    cases i with
    | zero => simp at e; exact ⟨_, _, by simp, e.symm⟩
    | succ i => simp at e; simpa using ih e
theorem up_lobj {vs : List Value} {n : Nat} {a b : Value} : Obj.mapSeq (fun x => x ++ #[a, b]) (lobj vs n) = lobj (vs ++ [a, b]) (n + 1) := by
  simp [lobj, Obj.mapSeq]
theorem news_ext {h₀ h : Heap} {L tp rs : Addr} {m : Str → Option Value} {to : Obj} {vs : List Value} {n : Nat} (F : Fr h₀ L h m) (N : News h₀ L h [(tp, to), (rs, lobj vs n)]) (hne : tp ≠ rs) (a b : Value) :
    Fr h₀ L (h.update rs (Obj.mapSeq fun x => x ++ #[a, b])) m ∧ News h₀ L (h.update rs (Obj.mapSeq fun x => x ++ #[a, b])) [(tp, to), (rs, lobj (vs ++ [a, b]) (n + 1))] :=
  news_upd (pre := [(tp, to)]) (post := []) F N (fun p hp => by rw [List.mem_singleton.mp hp]; exact hne) (fun p hp => by cases hp) up_lobj rfl
theorem cv_len {vs : List Value} {ps : List (List Nat)} {k : Nat} (h : IntsAre vs (((spOut ps ++ [[]]).take k).flatMap outOf)) (hc : Cut ps) (hs : ps.flatten.length ≤ 600) : vs.length ≤ 4000 := by
  have h1 := h.length
  have h2 : ∀ l : List (List Nat), (l.flatMap outOf).length ≤ 2 * l.length := by
    intro l
    induction l with
    | nil => simp
    | cons q r ih =>
      simp only [List.flatMap_cons, List.length_append, List.length_cons]
      have : (outOf q).length ≤ 2 := by unfold outOf; split <;> simp
      omega
  have h3 := h2 ((spOut ps ++ [[]]).take k)
  have h4 : ((spOut ps ++ [[]]).take k).length ≤ (spOut ps ++ [[]]).length := List.length_take_le' ..
  rw [List.length_append, spOut_len] at h4
  have := hc.len
  simp only [List.length_cons, List.length_nil] at h4
  omega
theorem ints_append {a b : List Value} {x y : List Int} (h : IntsAre a x) (k : IntsAre b y) : IntsAre (a ++ b) (x ++ y) := by
  induction h with
  | nil => exact k
  | cons n t _ ih => exact .cons n t ih
theorem take_flat {α β : Type} (f : α → List β) {l : List α} {i : Nat} {q : α} (h : l[i]? = some q) : (l.take (i + 1)).flatMap f = (l.take i).flatMap f ++ f q := by
  rw [List.take_add_one, h]; simp
section
variable {prog : Program} {w : World} {A : Around} {R : Result → Shared → Prop} {s : Shared} {mg mb : Str → Option Value}
theorem cv_spec {x : Str} {t : Tok} {ps : List (List Nat)} (W : Wd mg mb s.heap) (hroom : A.depth < recursionLimit) (hh : A.handled = none) (hx : x.cps.toList = ps.flatten) (hc : Cut ps) (hs : x.cps.size ≤ 600)
    (h : ∀ r vs n h' tk, s.heap.get? r = none → h'.get? r = some (lobj vs n) → IntsAre vs (cvOut ps) → Keep s.heap h' → R (.ok (.ret (.ref r))) { s with heap := h', toks := tk }) :
    codeAny (model prog w) A (.call (.ref 58) ⟨[.str x t], []⟩) R s := by
  refine call_fn (binds := [("version", .str x t)]) W.fcv hroom W.lim (fun _ _ _ => rfl) (by rfl) fun cd h₁ F => ?_
  rw [bm1] at F
  have W₁ := W.keeps F.keep
  refine wpAny_execs_cons (wpAny_Assign_Name (ldG W₁ W.re (stU F News.nil fun h₂ F₂ N₂ S₂ => ?_)))
  refine wpAny_execs_cons (wpAny_Assign_Name (List_ (args_nil (newList_N F₂ N₂ fun h₃ F₃ N₃ => stU F₃ N₃ fun h₄ F₄ N₄ S₄ => ?_))))
  have W₄ := W.keeps F₄.keep
  obtain ⟨op, f0, f1, ca, oc, ep, hp1, hp2, hp3, hpd, hp4, hp5⟩ := W₄.pat.ex
  refine wpAny_execs_cons (wpAny_For (meth1 plain_pat slot_split ty_split entry_split (ld (v := .ref 50) F₄ (by walk_at "lk") ⟨⟨op, hp1, hp3⟩, fun a e => ⟨op, (Value.ref.inj e) ▸ hp1, hpd⟩, ld (v := .str x t) F₄ (by walk_at "lk") ?_⟩)))
  refine ⟨⟨op, hp1, hp3⟩, args_split _ _, _, meets_split hx hc (by omega), W₄.pat, fun vs tk hvs => ?_⟩
  dsimp only
  generalize hrs : h₂.objs.size = rs at *
  refine for_list hh (l := h₄.objs.size) (items := vs.toArray) ⟨_, Heap.get?_push_size _ rfl, rfl, _, rfl⟩
    (fun i m nx g => g = s.gens ∧ m "result" = some (.ref rs) ∧ ∃ vs' n', nx = [(rs, lobj vs' n')] ∧ IntsAre vs' (((spOut ps ++ [[]]).take i).flatMap outOf)) [rs] ?_ ?_ ?_ (F₄.push _)
    (News.keep N₄ fun p _ o e => Heap.get?_push_of_some _ e) ⟨rfl, up_eq, [], 0, rfl, .nil⟩ ?_ ?_
  · intro e
    exact absurd (Heap.lt_size (N₄.get (.head _))) ((List.mem_singleton.mp e) ▸ Nat.lt_irrefl _)
  · exact Nat.ne_of_gt F₄.ns.lt
  · intro a ha
    rw [List.mem_singleton.mp ha]
    show rs < (h₄.push _).objs.size
    rw [Heap.size_push]
    exact Nat.lt_succ_of_lt (Heap.lt_size (N₄.get (.head _)))
  · rintro I i v m₁ nx h tk g hv ⟨rfl, hm, vs', n', rfl, hi'⟩ Fi Ni hnI hI hIL hIm E'
    obtain ⟨q, tq, hq, rfl⟩ := hvs.get (by simpa using hv)
    have hok := items_ok hc q (List.mem_of_getElem? hq)
    refine wpAny_execs_cons (wpAny_If (wpAny_isTrue_Compare1 (ld Fi up_eq (Constant_str (P.notIn_str (wpAny_truthy_bool ?_))))))
    rw [in_signs hok, Bool.not_not]
    cases hd : dgB q with
    | false =>
      rw [if_neg Bool.false_ne_true]
      refine wpAny_execs_nil (wpAny_execs_nil ?_)
      refine ⟨h, _, _, _, _, rfl, Fi, Ni, ⟨rfl, up_of hm, vs', n', rfl, ?_⟩, fun p hp e => hnI p hp (List.mem_singleton.mp e), fun b o _ _ e => e⟩
      rw [take_flat _ hq]
      simpa [outOf, hd] using hi'
    | true =>
      rw [if_pos rfl]
      have hdg : digP q := by
        rcases hok with rfl | h | h
        · cases hd
        · rw [sep_out h] at hd; cases hd
        · exact h
      have hql : q.length ≤ 600 := by
        have h1 : q.length ≤ ps.flatten.length := by
          have h2 := List.mem_of_getElem? hq
          rcases List.mem_append.mp h2 with h3 | h3
          · obtain ⟨p, hp, hpq⟩ := List.mem_flatMap.mp h3
            rcases List.mem_cons.mp hpq with rfl | hpq
            · exact Nat.zero_le _
            · rw [List.mem_singleton.mp hpq]
              exact (List.sublist_flatten_of_mem hp).length_le
          · rw [List.mem_singleton.mp h3]; exact Nat.zero_le _
        have h2 : x.cps.size = ps.flatten.length := by rw [← hx]; simp
        omega
      have hn : PySem.intText? ⟨q.toArray⟩ = some ((digitsVal q : Nat) : Int) := intText_digits (x := ⟨q.toArray⟩) (fun c hc => hdg.2 c (by simpa using hc)) (by simpa using hdg.1) (by show q.toArray.size ≤ 4300; simp; omega)
      have Wi := W.keeps Fi.keep
      refine wpAny_execs_cons (wpAny_Try_except ?_)
      refine wpAny_execs_cons (wpAny_Assign_Name (Call_ (ldB Wi boot_int (cwT (args_cons (ld Fi up_eq (args_cons (wpAny_Constant_int (args_nil (call_text10 hn (by show q.toArray.size ≤ 640; simp; omega) ?_))))))))))
      refine stU Fi Ni fun h₅ F₅ N₅ S₅ => ?_
      refine wpAny_execs_cons (wpAny_Assign_Name (wpAny_Constant_int (stU F₅ N₅ fun h₆ F₆ N₆ S₆ => ?_)))
      refine wpAny_execs_nil (wpAny_execs_nil ?_)
      refine wpAny_execs_cons (wpAny_Expr_any (meth1 PySem.F.plainAttrs_list PySem.F.slot_list_extend ty_extend PySem.F.entry_list_extend (ld (v := .ref rs) F₆ (by walk_at "lk") ⟨⟨_, N₆.get (.head _), rfl⟩, fun a e => ⟨_, (Value.ref.inj e) ▸ N₆.get (.head _), rfl⟩, ?_⟩)))
      refine Tuple_ (args_cons (ld F₆ (by walk_at "lk") (args_cons (ld F₆ (by walk_at "lk") (args_nil ?_)))))
      refine newTup ?_
      dsimp only
      have F₇ := F₆.push (tobj [.int 100 (tk + 1 + 1 + 1 + 1), .int (digitsVal q : Nat) (tk + 1 + 1)])
      have N₇ := N₆.push F₆ (tobj [.int 100 (tk + 1 + 1 + 1 + 1), .int (digitsVal q : Nat) (tk + 1 + 1)])
      have hvl := cv_len hi' hc (by have h2 : x.cps.size = ps.flatten.length := by rw [← hx]; simp
                                    omega)
      have hne : h₆.objs.size ≠ rs := Nat.ne_of_gt (Heap.lt_size (N₆.get (.head _)))
      refine ⟨⟨_, N₇.get (.tail _ (.head _)), rfl⟩, PySem.F.args_list_extend_2 _ _, _, AutoSeq1.list_extend_list_tuple_0 rs vs'.toArray n' h₆.objs.size #[.int 100 _, .int _ _] 0 ?_ ?_ ?_, N₇.get (.tail _ (.head _)), N₇.get (.head _), ?_⟩
      · have : Builtin.List.listTooLong (vs'.toArray.size + 2) = false := by
          unfold Builtin.List.listTooLong
          rw [sizeLine_eq, List.size_toArray]
          exact decide_eq_false (by omega)
        show ¬ (_ && Builtin.List.listTooLong (vs'.toArray.size + 2)) = true
        rw [this, Bool.and_false]
        exact Bool.false_ne_true
      · rw [sizeLine_eq, List.size_toArray]; omega
      · show vs'.toArray.size + 2 ≤ _
        rw [sizeLine_eq, List.size_toArray]; omega
      · refine wpAny_execs_nil (wpAny_execs_nil ?_)
        refine ⟨_, _, _, _, [(rs, lobj (vs' ++ [_, _]) (n' + 1))], rfl, (news_ext F₇ N₇ hne _ _).1, fun p hp => (news_ext F₇ N₇ hne _ _).2 p (.tail _ hp), ⟨rfl, by walk_at "lk", _, _, rfl, ?_⟩, fun p hp e => ?_, fun b o h1 h2 e => ?_⟩
        · rw [take_flat _ hq]
          refine ints_append hi' ?_
          rw [show outOf q = [(100 : Int), ((digitsVal q : Nat) : Int)] from by simp [outOf, hd]]
          exact .cons _ _ (.cons _ _ .nil)
        · rw [List.mem_singleton.mp hp] at e
          exact hnI (rs, _) (.head _) (List.mem_singleton.mp e)
        · have hb : b ≠ rs := fun q => h2 (q ▸ .head _)
          refine (Heap.get?_update_ne _ _ _ _ hb).trans ?_
          exact Heap.get?_push_of_some _ (S₆.extBut b o h1 (S₅.extBut b o h1 e))
  · rintro m₁ nx h' tk g ⟨rfl, hm, vs', n', rfl, hi'⟩ Fn Nn
    dsimp only
    refine wpAny_execs_cons (wpAny_Return_some (ld (v := .ref rs) Fn hm ?_))
    refine h rs vs' n' h' tk ?_ (Nn.get (.head _)) ?_ Fn.keep
    · exact (Nn _ (.head _)).2.2
    · rw [show vs.toArray.size = (spOut ps ++ [[]]).length from by rw [List.size_toArray, hvs.length], List.take_length, out_items] at hi'
      exact hi'
end
end Mine
end
section
open PySem PySem.W PyProof.Rows PySem.Calls PySem.Spec
set_option maxRecDepth 100000
set_option maxHeartbeats 4000000
namespace Mine
section
variable {M : Model} {A : Around} {R : GenEnd} {Y : Protocol} {n : Nat} {s₀ : Shared} {c : Code} {fs : List Frame} {s : Shared} {env : Env} {α β : Type}
theorem seg_bindw {m : Sem α} {k : α → Sem β} {K : β → Sem Fin} {H : Value → Sem Fin} {gd : Bool → Bool} {lv : List Value → List Value}
    (h : wpAny M (A.over c fs) m (fun a s' => Seg M A R Y n s₀ c ((k a).wrap K H gd lv) fs s') (fun x s' => Seg M A R Y n s₀ c (H x) fs s') s) : Seg M A R Y n s₀ c ((m >>= k).wrap K H gd lv) fs s := by
  rw [Sem.bind_eq_wrap', Sem.wrap_wrap]
  exact seg_wrap h
variable {K : Flow → Sem Fin} {H : Value → Sem Fin} {gd : Bool → Bool} {lv : List Value → List Value}
theorem seg_If {test : Expr} {body orelse : List Stmt} {pos : Pos}
    (h : wpAny M (A.over c fs) (isTrue test env (eval test env)) (fun b s₂ => if b = true then Seg M A R Y n s₀ c ((execs body env).wrap K H gd lv) fs s₂ else Seg M A R Y n s₀ c ((execs orelse env).wrap K H gd lv) fs s₂) (fun x s' => Seg M A R Y n s₀ c (H x) fs s') s) :
    Seg M A R Y n s₀ c ((exec (.If test body orelse pos) env).wrap K H gd lv) fs s := by
  rw [exec_If]
  refine seg_bindw (wpAny_standAt (seg_bindw (wpAny_mono h (fun b s₂ hb => ?_) fun _ _ x => x)))
  cases b with
  | true => rw [if_pos rfl] at hb; exact hb
  | false => rw [if_neg Bool.false_ne_true] at hb; exact hb
def retK (env : Env) (K : Flow → Sem Fin) (H : Value → Sem Fin) (gd : Bool → Bool) (lv : List Value → List Value) : Result → Sem Fin := fun r => ((match r with | .ok f => (.pure f : Sem Flow) | .error e => .raise e).onRaise fun (x : Value) => do
        if (← field x 1) == Value.none then unsupported "frame.own-activation:exception-without-traceback"
        setFlight x env.frame).wrap K H gd lv
theorem seg_For {target iter : Expr} {body orelse : List Stmt} {pos : Pos}
    (h : wpAny M (A.over c fs) (eval iter env) (fun xv s₁ => wpAny M (A.over c fs) (pyIter xv) (fun it s₂ => ∀ p, Seg M A R Y n s₀ (.forLoop target it body orelse env) (M.den (.forLoop target it body orelse env))
      (.ret (retK env K H gd lv) none (gd false) (lv []) c p [] :: fs) s₂) (fun x s' => Seg M A R Y n s₀ c (H x) fs s') s₁) (fun x s' => Seg M A R Y n s₀ c (H x) fs s') s)
    (hs : ∀ x, foldedSetIterable iter env x = pure x := by intro _; rfl) :
    Seg M A R Y n s₀ c ((exec (.For target iter body orelse pos) env).wrap K H gd lv) fs s := by
  rw [exec_For]
  refine seg_bindw (wpAny_standAt (seg_bindw (wpAny_mono h (fun xv s₁ h₁ => ?_) fun _ _ x => x)))
  refine seg_bindw (wpAny_of_eq (hs xv) (seg_bindw (wpAny_standAt (seg_bindw (wpAny_holding (wpAny_mono h₁ (fun it s₂ h₂ => ?_) fun _ _ x => x))))))
  exact seg_call h₂
end
section
variable {prog : Program} {w : World} {A : Around} {R : GenEnd} {Y : Protocol} {n : Nat} {s₀ : Shared} {fs : List Frame} {s : Shared} {env : Env}
def notH (env : Env) : Value → Sem Fin := fun e => (do noteFrame e env; theTreesLotGoes e : Sem Unit).wrap (fun _ => .raise e) .raise id id
def forK (target : Expr) (it : Value) (body orelse : List Stmt) (env : Env) : Flow → Sem Fin := fun f => match f with
  | .next | .cont => .pure (.again (.forLoop target it body orelse env))
  | .brk => .pure (.done .next)
  | .ret v => .pure (.done (.ret v))
theorem seg_forLoop {target : Expr} {it : Value} {body orelse : List Stmt} (ht : ∀ v, letOwnedTupleGo target it v = pure ())
    (h : wpAny (model prog w) (A.over (.forLoop target it body orelse env) fs) (pyNext it) (fun r s₁ => match r with
        | none => Seg (model prog w) A R Y n s₀ (.block orelse env) ((model prog w).den (.block orelse env)) fs s₁
        | some v => wpAny (model prog w) (A.over (.forLoop target it body orelse env) fs) (assign target env v) (fun _ s₂ => Seg (model prog w) A R Y n s₀ (.forLoop target it body orelse env) ((execs body env).wrap (forK target it body orelse env) (notH env) id id) fs s₂)
            (fun x s' => Seg (model prog w) A R Y n s₀ (.forLoop target it body orelse env) (notH env x) fs s') s₁)
      (fun x s' => Seg (model prog w) A R Y n s₀ (.forLoop target it body orelse env) (notH env x) fs s') s) :
    Seg (model prog w) A R Y n s₀ (.forLoop target it body orelse env) ((model prog w).den (.forLoop target it body orelse env)) fs s := by
  have e : ∀ x, (do noteFrame x env; theTreesLotGoes x : Sem Unit).bind (fun _ => .raise x) = notH env x := fun x => Sem.bind_eq_wrap _ _
  show Seg _ A R Y n s₀ _ ((forTurn target it body orelse env).onRaise (fun x => do noteFrame x env; theTreesLotGoes x)) fs s
  unfold forTurn
  rw [Sem.onRaise_eq_wrap]
  refine seg_bindw (wpAny_standAt (seg_bindw (wpAny_onRaise (wpAny_mono h (fun r s₁ h₁ => ?_) fun x s' hx => wpAny_standAt ?_))))
  · cases r with
    | none => exact seg_again rfl h₁
    | some v =>
      refine seg_bindw (wpAny_of_eq (ht v) (seg_bindw (wpAny_mono h₁ (fun _ s₂ h₂ => ?_) fun x s' hx => ?_)))
      · rw [Sem.bind_eq_wrap', Sem.wrap_wrap]
        refine Eq.mpr (congrArg (fun t => Seg (model prog w) A R Y n s₀ (.forLoop target it body orelse env) t fs s₂) (Sem.wrap_congr (execs body env) id id (K' := forK target it body orelse env) (H' := notH env) (fun f => ?_) (fun x => e x))) h₂
        cases f <;> rfl
      · rw [e x]; exact hx
  · rw [e x]; exact hx
theorem seg_block_nil {fs : List Frame} {k : Result → Sem Fin} {hd : Option Value} {g : Bool} {l : List Value} {c₁ : Code} {p₁ : Pos} {kp}
    (h : Seg (model prog w) A R Y n s₀ c₁ (k (.ok .next)) fs s) : Seg (model prog w) A R Y n s₀ (.block [] env) ((model prog w).den (.block [] env)) (.ret k hd g l c₁ p₁ kp :: fs) s :=
  seg_leaf (.ok .next) h
end
end Mine
end
section
open PySem PySem.W PyProof.Rows PySem.Calls PySem.Spec
set_option maxRecDepth 100000
set_option maxHeartbeats 4000000
namespace Mine
local macro_rules | `(tactic| walk_at "lk") => `(tactic| (repeat (first | exact up_eq | assumption | refine up_of ?_ (by decide))))
/-- what the walk over the sizes hands on: the k-th, where one comes -/
def gout : List Int → Option Int → Nat → Option Int
  | [], _, _ => none
  | x :: r, last, k => if x = 127 then none else if x = 0 then last else match k with
    | 0 => some x
    | k + 1 => gout r (some x) k
theorem ne_none {h : Heap} {b c : Addr} {o : Obj} (h1 : h.get? c = none) (h2 : h.get? b = some o) : b ≠ c := fun q => by rw [q, h1] at h2; cases h2
def gTgt : Expr := match ((bdyP 4)[1]? : Option Stmt) with | some (Stmt.For t _ _ _ _) => t | _ => .Constant .none 0 ⟨0, 0, 0, 0⟩
def gFor : List Stmt := match ((bdyP 4)[1]? : Option Stmt) with | some (Stmt.For _ _ b _ _) => b | _ => []
def gIf : List Stmt := match (gFor[1]? : Option Stmt) with | some (Stmt.If _ b _ _) => b | _ => []
def gWhT : Expr := match (gIf[1]? : Option Stmt) with | some (Stmt.While t _ _ _) => t | _ => .Constant .none 0 ⟨0, 0, 0, 0⟩
def gWhB : List Stmt := match (gIf[1]? : Option Stmt) with | some (Stmt.While _ b _ _) => b | _ => []
abbrev genv (L : Addr) (cd : Value) : Env := envOf "_grouping_intervals" (scpP 4) L 45 cd
/-- the frame of the walk, between two of its sizes -/
structure GFr (hB : Heap) (L I l : Addr) (i : Nat) (lastV : Value) (h : Heap) : Prop where
  keep : Keep hB h
  ns : ∃ m, h.Ns L m ∧ m "grouping" = some (.ref l) ∧ m "last_interval" = some lastV
  it : h.IsListIter I l i
/-- what a stretch of the walk leaves alone -/
structure GKeep (L I : Addr) (s₀ s : Shared) : Prop where
  ex : ∃ h tk, s = { s₀ with heap := h, toks := tk }
  keep : ∀ b o, b ≠ L → b ≠ I → s₀.heap.get? b = some o → s.heap.get? b = some o
def YG (hB : Heap) (L I : Addr) (out : Nat → Option Int) (N : Nat) : Protocol := fun n s₀ v s' kap =>
  ∃ x t, v = .int x t ∧ out (N - (n + 1)) = some x ∧ GKeep L I s₀ s' ∧ Keep hB s'.heap ∧ (L < s'.heap.objs.size ∧ I < s'.heap.objs.size) ∧
    (n ≠ 0 → ∀ s'' : Shared, Keep hB s''.heap → (∀ o, s'.heap.get? L = some o → s''.heap.get? L = some o) → (∀ o, s'.heap.get? I = some o → s''.heap.get? I = some o) → kap (.send .none) s'')
def PG (L I : Addr) (out : Nat → Option Int) (N : Nat) : Nat → Shared → Shared → Prop := fun n s₀ s₁ => out (N - n) = none ∧ GKeep L I s₀ s₁
abbrev RG (L I : Addr) (out : Nat → Option Int) (N : Nat) : GenEnd := fun n s₀ r s₁ => r = .ok (.ret .none) ∧ PG L I out N n s₀ s₁
theorem GKeep.trans {L I : Addr} {a b c : Shared} (x : GKeep L I a b) (y : GKeep L I b c) : GKeep L I a c := by
  obtain ⟨⟨h, tk, rfl⟩, k⟩ := x
  obtain ⟨⟨h', tk', rfl⟩, k'⟩ := y
  exact ⟨⟨h', tk', rfl⟩, fun b o h1 h2 e => k' b o h1 h2 (k b o h1 h2 e)⟩
theorem GKeep.refl {L I : Addr} {s : Shared} : GKeep L I s s := ⟨⟨s.heap, s.toks, rfl⟩, fun _ _ _ _ e => e⟩
theorem GKeep.set {L I : Addr} {s₀ s : Shared} {h' : Heap} {tk : Nat} (x : GKeep L I s₀ s) (hs : Heap.SameBut L s.heap h') : GKeep L I s₀ { s with heap := h', toks := tk } := by
  obtain ⟨⟨h, tk', rfl⟩, k⟩ := x
  exact ⟨⟨h', tk, rfl⟩, fun b o h1 h2 e => hs.extBut b o h1 (k b o h1 h2 e)⟩
theorem GKeep.toks {L I : Addr} {s₀ s : Shared} {tk : Nat} (x : GKeep L I s₀ s) : GKeep L I s₀ { s with toks := tk } := by
  obtain ⟨⟨h, tk', rfl⟩, k⟩ := x
  exact ⟨⟨h, tk, rfl⟩, k⟩
section
variable {prog : Program} {w : World} {A : Around} {mg mb : Str → Option Value} {hB : Heap} {L I l : Addr} {cd : Value} {out : Nat → Option Int} {N : Nat}
/-- the tree below the loop -/
def gK (env : Env) : Flow → Sem Fin := fun f => match f with | .next => (execs [] env).wrap (fun f => .pure (.done (.ret (match f with | .ret v => v | _ => .none)))) (fun e => (leaving env e).wrap (fun _ => .raise e) .raise id id) id id | f => .pure (.done (.ret (match f with | .ret v => v | _ => .none)))
def gH (env : Env) : Value → Sem Fin := fun e => (leaving env e).wrap (fun _ => .raise e) .raise id id
abbrev gFrame (env : Env) (p : Pos) : Frame := .ret (retK env (gK env) (gH env) id id) none (id false) (id []) (.func (bdyP 4) env) p []
/-- the endless part -/
theorem seg_endless {p p' : Pos} {y : Int} {ty : Tok} {k' : Result → Sem Fin} (W : Wd mg mb hB) (hLI : L ≠ I) :
    ∀ (n j : Nat) (s₀ s : Shared), n + 1 ≤ N → (∀ k, out (N - (n + 1) + k) = some y) → GFr hB L I l j (.int y ty) s.heap → GKeep L I s₀ s →
      Seg (model prog w) A (RG L I out N) (YG hB L I out N) (n + 1) s₀ (.whileLoop gWhT gWhB [] (genv L cd)) ((model prog w).den (.whileLoop gWhT gWhB [] (genv L cd)))
        [.ret k' none (id false) (id []) (.forLoop gTgt (.ref I) gFor [] (genv L cd)) p' [], gFrame (genv L cd) p] s := by
  intro n
  induction n with
  | zero =>
    intro j s₀ s hn hout G K
    obtain ⟨m, hm, hg, hl⟩ := G.ns
    refine seg_whileLoop (wpAny_isTrue_value (wpAny_Constant_bool (wpAny_truthy_bool ?_)))
    rw [if_pos rfl]
    refine seg_execs_cons (seg_Expr_Yield rfl rfl rfl (ldE hm hl ?_))
    intro kap hk
    exact ⟨y, ty, rfl, by simpa using hout 0, K, G.keep, ⟨hm.lt, let ⟨_, ho, _⟩ := G.it; Heap.lt_size ho⟩, fun h => absurd rfl h⟩
  | succ n ih =>
    intro j s₀ s hn hout G K
    obtain ⟨m, hm, hg, hl⟩ := G.ns
    refine seg_whileLoop (wpAny_isTrue_value (wpAny_Constant_bool (wpAny_truthy_bool ?_)))
    rw [if_pos rfl]
    refine seg_execs_cons (seg_Expr_Yield rfl rfl rfl (ldE hm hl ?_))
    intro kap hk
    refine ⟨y, ty, rfl, by simpa using hout 0, K, G.keep, ⟨hm.lt, let ⟨_, ho, _⟩ := G.it; Heap.lt_size ho⟩, fun _ s'' hkB hkL hkI => hk .none s'' ?_⟩
    refine seg_execs_nil (seg_again rfl ?_)
    refine ih j s'' s'' (by omega) (fun k => ?_) ⟨hkB, ⟨m, hm.at' fun o e => hkL o e, hg, hl⟩, G.it.at fun o e => hkI o e⟩ .refl
    have := hout (k + 1)
    rwa [show N - (n + 1 + 1) + (k + 1) = N - (n + 1) + k by omega] at this
theorem gout_at {ns : List Int} {i : Nat} {last : Option Int} (k : Nat) {x : Int} (hx : ns[i]? = some x) : gout (ns.drop i) last k = if x = 127 then none else if x = 0 then last else match k with | 0 => some x | k + 1 => gout (ns.drop (i + 1)) (some x) k := by
  obtain ⟨hi, rfl⟩ := List.getElem?_eq_some_iff.mp hx
  rw [List.drop_eq_getElem_cons hi]
  rfl
/-- the loop over the sizes -/
theorem seg_loop {p : Pos} {vs : List Value} {ns : List Int} (W : Wd mg mb hB) (hLI : L ≠ I) (hLB : hB.get? L = none) (hIB : hB.get? I = none) (hh : A.handled = none) (hl : hB.IsList l vs.toArray) (hi : IntsAre vs ns) :
    ∀ (n i : Nat) (last : Option Int) (lastV : Value) (s₀ s : Shared), n + 1 ≤ N → (∀ k, out (N - (n + 1) + k) = gout (ns.drop i) last k) → ((last = none ∧ lastV = .none ∧ ns[i]? ≠ some 0) ∨ ∃ y ty, last = some y ∧ lastV = .int y ty) → GFr hB L I l i lastV s.heap → GKeep L I s₀ s →
      Seg (model prog w) A (RG L I out N) (YG hB L I out N) (n + 1) s₀ (.forLoop gTgt (.ref I) gFor [] (genv L cd)) ((model prog w).den (.forLoop gTgt (.ref I) gFor [] (genv L cd))) [gFrame (genv L cd) p] s := by
  intro n
  induction n using Nat.strongRecOn with
  | ind n ih =>
    intro i last lastV s₀ s hn hout hlast G K
    obtain ⟨m, hm, hg, hlv⟩ := G.ns
    have hls : s.heap.IsList l vs.toArray := hl.at fun o e => G.keep l o e
    have hA : (A.over (.forLoop gTgt (.ref I) gFor [] (genv L cd)) [gFrame (genv L cd) p]).handled = none := by
      show (marksOver [gFrame (genv L cd) p] (A.handled, A.handled)).1 = none
      rw [hh]; rfl
    refine seg_forLoop (fun _ => rfl) ?_
    cases hx : vs[i]? with
    | none =>
      refine wpAny_pyNext_list_end hA G.it hls (by simpa using hx) fun h' he' => ?_
      refine seg_block_nil ?_
      refine seg_end (.ok (.ret .none)) ⟨rfl, ?_, ?_⟩
      · have h0 := hout 0
        have hlen : ns.length ≤ i := by rw [← hi.length]; exact List.getElem?_eq_none_iff.mp hx
        rw [List.drop_eq_nil_of_le hlen] at h0
        exact h0
      · obtain ⟨⟨h, tk, rfl⟩, k⟩ := K
        exact ⟨⟨h', tk, rfl⟩, fun b o h1 h2 e => he' b o h2 (k b o h1 h2 e)⟩
    | some v =>
      refine wpAny_pyNext_list_item G.it hls (x := v) (by simpa using hx) fun h' hit' hs' => ?_
      have hlt : i < ns.length := by rw [← hi.length]; exact (List.getElem?_eq_some_iff.mp hx).1
      have hxn : ns[i]? = some ns[i] := List.getElem?_eq_some_iff.mpr ⟨hlt, rfl⟩
      obtain ⟨tx, hvx⟩ := hi.get i ns[i] hxn
      generalize hxx : ns[i] = x at hxn hvx
      obtain rfl : v = .int x tx := by rw [hx] at hvx; exact Option.some.inj hvx
      have hm' : h'.Ns L m := hm.at' fun o e => hs'.extBut L o hLI e
      refine wpAny_assign_Name (wpAny_storeName_local (env := genv L cd) rfl hm' (fun h₂ hn₂ hs₂ => ?_) rfl)
      have hn₂ : h₂.Ns L (up m "interval" (.int x tx)) := hn₂
      have kB₂ : Keep hB h₂ := fun b o e => hs₂.extBut b o (ne_none hLB e) (hs'.extBut b o (ne_none hIB e) (G.keep b o e))
      have it₂ : h₂.IsListIter I l (i + 1) := hit'.at fun o e => hs₂.extBut I o (Ne.symm hLI) e
      have K₂ : GKeep L I s₀ { s with heap := h₂, toks := s.toks + 1 } := by
        obtain ⟨⟨h, tk, rfl⟩, k⟩ := K
        exact ⟨⟨h₂, _, rfl⟩, fun b o h1 h2 e => hs₂.extBut b o h1 (hs'.extBut b o h2 (k b o h1 h2 e))⟩
      have W₂ := W.keeps kB₂
      obtain ⟨tc, hch⟩ := W.char
      have ho := fun k => (hout k).trans (gout_at k hxn)
      refine seg_execs_cons (seg_If (wpAny_isTrue_Compare1 (ldE hn₂ up_eq (ldG W₂ hch (eq_int (wpAny_truthy_bool ?_))))))
      by_cases h127 : x = 127
      · subst h127
        rw [if_pos (by decide)]
        refine seg_execs_cons (seg_wrap (wpAny_Return_none ?_))
        refine seg_leaf (.ok (.ret .none)) (seg_end (.ok (.ret .none)) ⟨rfl, ?_, K₂⟩)
        exact ho 0
      · rw [if_neg (by simpa using h127)]
        refine seg_execs_nil ?_
        have ho1 := fun k => (ho k).trans (if_neg h127)
        refine seg_execs_cons (seg_If (wpAny_isTrue_Compare1 (ldE hn₂ up_eq (wpAny_Constant_int (eq_int (wpAny_truthy_bool ?_))))))
        by_cases h00 : x = 0
        · subst h00
          rw [if_pos (by decide)]
          rcases hlast with ⟨_, _, hne⟩ | ⟨y, ty, rfl, rfl⟩
          · exact absurd hxn hne
          · refine seg_execs_cons (seg_If (wpAny_isTrue_Compare1 (ldE hn₂ (up_of hlv) (wpAny_Constant_none (is_int_none (wpAny_truthy_bool ?_))))))
            rw [if_neg Bool.false_ne_true]
            refine seg_execs_nil (seg_execs_cons (seg_While fun p' => ?_))
            refine seg_endless W hLI n (i + 1) s₀ _ hn (fun k => ho1 k) ⟨kB₂, ⟨_, hn₂, up_of hg, up_of hlv⟩, it₂⟩ ?_
            exact K₂.toks
        · rw [if_neg (by simpa using h00)]
          have ho2 := fun k => (ho1 k).trans (if_neg h00)
          refine seg_execs_nil (seg_execs_cons (seg_Expr_Yield rfl rfl rfl (ldE hn₂ up_eq ?_)))
          intro kap hk
          refine ⟨x, tx, rfl, ho2 0, K₂.toks, kB₂, ⟨hn₂.lt, let ⟨_, ho, _⟩ := it₂; Heap.lt_size ho⟩, fun hn0 s'' hkB hkL hkI => hk .none s'' ?_⟩
          obtain ⟨n, rfl⟩ : ∃ n', n = n' + 1 := ⟨n - 1, by omega⟩
          have hn₃ : s''.heap.Ns L (up m "interval" (.int x tx)) := hn₂.at' fun o e => hkL o e
          have it₃ : s''.heap.IsListIter I l (i + 1) := it₂.at fun o e => hkI o e
          refine seg_execs_cons (seg_wrap (wpAny_Assign_Name (ldE hn₃ up_eq (wpAny_storeName_local (env := genv L cd) rfl hn₃ (fun h₄ hn₄ hs₄ => ?_) rfl))))
          have hn₄ : h₄.Ns L (up (up m "interval" (.int x tx)) "last_interval" (.int x tx)) := hn₄
          refine seg_execs_nil (seg_again rfl ?_)
          refine ih n (by omega) (i + 1) (some x) (.int x tx) s'' _ (by omega) (fun k => ?_) (.inr ⟨x, tx, rfl, rfl⟩) ⟨fun b o e => hs₄.extBut b o (ne_none hLB e) (hkB b o e), ⟨_, hn₄, by walk_at "lk", up_eq⟩, it₃.at fun o e => hs₄.extBut I o (Ne.symm hLI) e⟩ (GKeep.refl.set hs₄)
          have := ho2 (k + 1)
          rwa [show N - (n + 1 + 1) + (k + 1) = N - (n + 1) + k by omega] at this
end
end Mine
end
section
open PySem PySem.W PyProof.Rows PySem.Calls PySem.Spec
set_option maxRecDepth 100000
set_option maxHeartbeats 4000000
namespace Mine
local macro_rules | `(tactic| walk_at "lk") => `(tactic| (repeat (first | exact up_eq | assumption | refine up_of ?_ (by decide))))
section
variable {prog : Program} {w : World} {A : Around} {E : Value → Shared → Prop} {s : Shared} {mg mb : Str → Option Value}
theorem pyNext_G {a : Addr} {g n : Nat} {gs : GenState} {P : Nat → Shared → Shared → Prop} {Y : Protocol} {Q : Option Value → Shared → Prop} (hh : A.handled = none)
    (hl : s.heap.NoLimit) (hroom : A.depth < recursionLimit) (hg : s.heap.IsGen a g) (hgs : s.gens[g]? = some gs)
    (hgo : gs.Goes (model prog w) A.in1 (fun n s₀ r s₁ => r = .ok (.ret .none) ∧ P n s₀ s₁) Y n (.send .none) (s.setGen g .running))
    (hY : ∀ v s₁ gs', gs'.bare = true → Y (n - 1) (s.setGen g .running) v s₁ (fun r' s'' => match n with
        | 0 => False
        | m + 1 => gs'.Goes (model prog w) A.in1 (fun n s₀ r s₁ => r = .ok (.ret .none) ∧ P n s₀ s₁) Y m r' s'') → Q (some v) (s₁.setGen g gs'))
    (hP : ∀ s₁, P n (s.setGen g .running) s₁ → ∀ h', Keep s₁.heap h' → Q none { s₁.setGen g .finished with heap := h' }) :
    wpAny (model prog w) A (pyNext (.ref a)) Q E s := by
  unfold pyNext
  refine wpAny_bind (wpAny_attempt (wpAny_callSpecial?_slot (name := Str.ofString "__next__") hg.typeIs slot_gen_next
    (wpAny_call_entry slot_gen_next hg.typeIs entry_gen_next ?_ (args_gen_next _))))
  show wpAny _ A.in1 (Builtin.Generator.genWake (.ref a) (.send .none)) _ _ s
  unfold Builtin.Generator.genWake
  refine wpAny_bind (wpAny_holding (wpAny_genNumber hg (wpAny_bind (wpAny_genState hgs ?_))))
  cases gs with
  | running => exact hgo.elim
  | finished => exact hgo.elim
  | _ =>
    refine wpAny_bind (wpAny_roomToWake hl hroom ?_)
    show wpAny _ A.in1 (.resume g (.send .none) [] _) _ _ s
    refine wpAny_resumeQ hgs hgo (fun x s₁ hx => ?_) (fun v s₁ gs' hb hv => ?_)
    · obtain ⟨rfl, hp⟩ := hx
      show wpAny _ A.in1 (newExc (.type "StopIteration") [] >>= _) _ _ _
      refine wpAny_bind ?_
      simp only [newExc, newTuple]
      refine wpAny_bind (wpAny_newObj_type ?_ (by size_fits))
      refine wpAny_bind (m := firstArgMember _ _) (wpAny_of_eq (a := Value.none) (by first | rfl | (simp only [firstArgMember]; rfl)) ?_)
      refine wpAny_newObj_type ?_ (by size_fits)
      simp only [raiseNew]
      refine wpAny_bind (wpAny_bind (wpAny_handled ?_))
      first | rw [show A.in1.handled = none from hh] | rw [hh]
      refine wpAny_throw ?_
      refine wpAny_bind (wpAny_isInstance (T := "StopIteration") (b := true) ⟨_, Heap.get?_push_size _ rfl, rfl⟩ isSubtype_stop ?_)
      exact wpAny_pure (hP s₁ hp _ fun b o hb => Heap.get?_push_of_some _ (Heap.get?_push_of_some _ hb))
    · exact wpAny_pure ⟨v, rfl, wpAny_pure (hY v s₁ gs' hb hv)⟩
/-- the walk from its start -/
theorem goes_start {hB : Heap} {L l : Addr} {cd : Value} {out : Nat → Option Int} {n : Nat} {vs : List Value} {ns : List Int} {m : Str → Option Value} (W : Wd mg mb hB) (hLB : hB.get? L = none) (hh : A.handled = none) (hl : hB.IsList l vs.toArray) (hi : IntsAre vs ns)
    (hout : ∀ k, out k = gout ns none k) (h0 : ns[0]? ≠ some 0) (hk : Keep hB s.heap) (hm : s.heap.Ns L m) (hg : m "grouping" = some (.ref l)) :
    (GenState.fresh (.func (bdyP 4) (genv L cd))).Goes (model prog w) A (RG L s.heap.objs.size out (n + 1)) (YG hB L s.heap.objs.size out (n + 1)) (n + 1) (.send .none) s := by
  refine ⟨rfl, ?_⟩
  have hIB : hB.get? s.heap.objs.size = none := by
    cases q : hB.get? s.heap.objs.size with
    | none => rfl
    | some o => exact absurd (Heap.lt_size (hk _ _ q)) (Nat.lt_irrefl _)
  refine seg_func (seg_execs_cons (seg_wrap (wpAny_Assign_Name (wpAny_Constant_none (wpAny_storeName_local (env := genv L cd) rfl hm (fun h₂ hn₂ hs₂ => ?_) rfl)))))
  have hn₂ : h₂.Ns L (up m "last_interval" .none) := hn₂
  have kB₂ : Keep hB h₂ := fun b o e => hs₂.extBut b o (ne_none hLB e) (hk b o e)
  have hsz : h₂.objs.size = s.heap.objs.size := hs₂.1
  refine seg_execs_cons (seg_For (ldE hn₂ (up_of hg) (wpAny_pyIter_list (hl.at fun o e => kB₂ l o e) fun p => ?_)))
  dsimp only
  rw [hsz]
  have hLI : L ≠ s.heap.objs.size := Nat.ne_of_lt hm.lt
  refine seg_loop W hLI hLB hIB hh hl hi n 0 none .none _ _ (Nat.le_refl _) (fun k => ?_) (.inl ⟨rfl, rfl, h0⟩) ⟨fun b o e => Heap.get?_push_of_some _ (kB₂ b o e), ⟨_, hn₂.push _, up_of hg, up_eq⟩, ⟨_, by rw [← hsz]; exact Heap.get?_push_size _ rfl, rfl, rfl⟩⟩ ⟨⟨_, _, rfl⟩, fun b o h1 h2 e => ?_⟩
  · rw [Nat.sub_self, Nat.zero_add, hout]; rfl
  · exact Heap.get?_push_of_some _ (hs₂.extBut b o h1 e)
end
end Mine
end
section
open PySem PySem.W PyProof.Rows PySem.Calls PySem.Spec
set_option maxRecDepth 100000
set_option maxHeartbeats 4000000
namespace Mine
theorem allBare_set {gens : Array GenState} {g : Nat} {x : GenState} (h : AllBare gens) (hx : x.bare = true) : AllBare (gens.setIfInBounds g x) := by
  intro y hy
  obtain ⟨i, hi, rfl⟩ := Array.mem_iff_getElem.mp hy
  have hi' : i < gens.size := by simpa using hi
  rw [Array.getElem_setIfInBounds hi']
  split
  · exact hx
  · exact h _ (Array.getElem_mem _)
theorem get_set {gens : Array GenState} {g : Nat} {x y : GenState} (h : gens[g]? = some y) : (gens.setIfInBounds g x)[g]? = some x := by
  obtain ⟨hi, _⟩ := Array.getElem?_eq_some_iff.mp h
  simp [hi]
section
variable {prog : Program} {w : World} {A : Around} {R : Result → Shared → Prop} {s : Shared} {env : Env} {h₀ : Heap} {x : Str} {px : Pos} {body : List Stmt} {mg mb : Str → Option Value}
/-- a loop over the walk, N turns at most -/
theorem for_gen {m₀ : Str → Option Value} {news : List (Addr × Obj)} {ga L l : Addr} {g n : Nat} {cd : Value} {mL : Str → Option Value} {vs : List Value} {ns : List Int} (hh : A.handled = none) (hroom : A.depth < recursionLimit) (W : Wd mg mb h₀)
    (J : Nat → (Str → Option Value) → List (Addr × Obj) → Prop) (mt : List Addr)
    (hLB : h₀.get? L = none) (hl : h₀.IsList l vs.toArray) (hi : IntsAre vs ns) (h0 : ns[0]? ≠ some 0) (hmL : s.heap.Ns L mL) (hgr : mL "grouping" = some (.ref l)) (hLe : L ≠ env.locals)
    (hga : s.heap.IsGen ga g) (hgaL : ga ≠ L) (hgae : ga ≠ env.locals) (hgam : ga ∉ mt) (hgs : s.gens[g]? = some (.fresh (.func (bdyP 4) (genv L cd)))) (hab : AllBare s.gens)
    (hLm : L ∉ mt) (hmt : ∀ a ∈ mt, a < s.heap.objs.size)
    (F : Fr h₀ env.locals s.heap m₀) (N : News h₀ env.locals s.heap news) (hnL : ∀ p ∈ news, p.1 ≠ L) (hJ : J 0 m₀ news)
    (turn : ∀ k y t m₁ nx h tk gg, k < n + 1 → gout ns none k = some y → J k m₁ nx → Fr h₀ env.locals h (up m₁ x (.int y t)) → News h₀ env.locals h nx → (∀ p ∈ nx, p.1 ≠ L ∧ p.1 ≠ s.heap.objs.size) → L < h.objs.size → s.heap.objs.size < h.objs.size → AllBare gg → ∀ E',
      wpAny (model prog w) A (execs body env) (TurnEnd h₀ env.locals R (fun m₂ nx₂ gg' => J (k + 1) m₂ nx₂ ∧ k + 1 < n + 1 ∧ gg' = gg) [L, s.heap.objs.size] mt h s) E' { s with heap := h, toks := tk, gens := gg })
    (done : ∀ k m₁ nx h tk gg, gout ns none k = none → J k m₁ nx → Fr h₀ env.locals h m₁ → News h₀ env.locals h nx → AllBare gg → R (.ok .next) { s with heap := h, toks := tk, gens := gg })
    (hkx : env.kindOf x = some .local := by rfl) (hp : (env.scope.kind == .class || (env.scope.kind == .module && env.locals != env.globals)) = false := by rfl) :
    codeAny (model prog w) A (.forLoop (.Name x px) (.ref ga) body [] env) R s := by
  have hIB : h₀.get? s.heap.objs.size = none := by
    cases q : h₀.get? s.heap.objs.size with
    | none => rfl
    | some o => exact absurd (Heap.lt_size (F.keep _ _ q)) (Nat.lt_irrefl _)
  have hIe : s.heap.objs.size ≠ env.locals := Nat.ne_of_gt F.ns.lt
  have hIm : s.heap.objs.size ∉ mt := fun q => absurd (hmt _ q) (Nat.lt_irrefl _)
  have hLI : L ≠ s.heap.objs.size := Nat.ne_of_lt hmL.lt
  have hgaI : ga ≠ s.heap.objs.size := by obtain ⟨o, _, _, ho, _⟩ := hga; exact Nat.ne_of_lt (Heap.lt_size ho)
  generalize hI : s.heap.objs.size = I at hIB hIe hIm hLI hgaI turn
  refine codeAny_forLoop (fun k' s' => ∃ k h tk gg m₁ nx gs, s' = { s with heap := h, toks := tk, gens := gg } ∧ k < n + 1 ∧ k' = n + 1 - k ∧ AllBare gg ∧ gg[g]? = some gs ∧
      (∀ s'' : Shared, s''.heap = h → gs.Goes (model prog w) A.in1 (RG L I (gout ns none) (n + 1)) (YG h₀ L I (gout ns none) (n + 1)) (n + 1 - k) (.send .none) s'') ∧
      J k m₁ nx ∧ Fr h₀ env.locals h m₁ ∧ News h₀ env.locals h nx ∧ (∀ p ∈ nx, p.1 ≠ L ∧ p.1 ≠ I) ∧ h.IsGen ga g) ?_ (n + 1)
    ⟨0, s.heap, s.toks, s.gens, m₀, news, _, rfl, by omega, rfl, hab, hgs, ?_, hJ, F, N, fun p hp => ⟨hnL p hp, fun e => absurd (Heap.lt_size (N p hp).1) (by rw [e, ← hI]; exact Nat.lt_irrefl _)⟩, hga⟩
  · rintro k' s' ⟨k, h, tk, gg, m₁, nx, gs, rfl, hk, rfl, hbg, hgg, hgo, hJk, Fk, Nk, hnk, hgk⟩
    obtain ⟨d, hd⟩ : ∃ d, n + 1 - k = d + 1 := ⟨n - k, by omega⟩
    have hkd : n + 1 - (d + 1) = k := by omega
    rw [hd] at hgo
    refine pyNext_G (n := d + 1) hh (W.keeps Fk.keep).lim hroom hgk hgg (hgo _ rfl) (fun v s₁ gs' hb hv => ?_) (fun s₁ hP h' hk' => ?_)
    · obtain ⟨y, ty, rfl, hy, K, kB, ⟨hL₁, hI₁⟩, hnext⟩ := hv
      rw [show d + 1 - 1 = d from rfl, hkd] at hy
      obtain ⟨⟨h₁, tk₁, rfl⟩, kk⟩ := K
      dsimp only [Shared.setGen] at kk kB hL₁ hI₁ hnext ⊢
      have F₁ : Fr h₀ env.locals h₁ m₁ := ⟨Fk.ns.at' fun o e => kk _ o (Ne.symm hLe) (Ne.symm hIe) e, kB, Fk.above⟩
      have N₁ : News h₀ env.locals h₁ nx := News.keep Nk fun p hp o e => kk _ _ (hnk p hp).1 (hnk p hp).2 e
      refine wpAny_assign_Name (wpAny_storeName_local hkx F₁.ns (fun h₂ hn₂ hs₂ => ?_) hp)
      have F₂ : Fr h₀ env.locals h₂ (up m₁ x (.int y ty)) := F₁.set hn₂ hs₂
      have N₂ : News h₀ env.locals h₂ nx := N₁.set hs₂
      have hsz : h₂.objs.size = h₁.objs.size := hs₂.1
      refine wpAny_mono (turn k y ty m₁ nx h₂ (tk₁ + 1) _ hk hy hJk F₂ N₂ hnk (hsz ▸ hL₁) (hsz ▸ hI₁) (allBare_set (allBare_set hbg rfl) hb) _) (fun f s₃ ht => ?_) fun _ _ e => e
      cases f with
      | ret v => exact ht
      | brk => exact ht
      | _ =>
        obtain ⟨h', tk', g', m₂, nx₂, rfl, F', N', ⟨hJ', hk1, rfl⟩, hn', hk'⟩ := ht
        refine ⟨n + 1 - (k + 1), by omega, k + 1, h', tk', _, m₂, nx₂, gs', rfl, hk1, rfl, allBare_set (allBare_set hbg rfl) hb, get_set (get_set hgg), fun s'' hs'' => ?_, hJ', F', N', fun p hp => ⟨fun e => hn' p hp (by rw [e]; simp), fun e => hn' p hp (by rw [e]; simp)⟩, ?_⟩
        · rw [show n + 1 - (k + 1) = d by omega]
          exact hnext (by omega) s'' (by rw [hs'']; exact F'.keep) (fun o e => by rw [hs'']; exact hk' _ o hLe hLm (hs₂.extBut _ o hLe e)) (fun o e => by rw [hs'']; exact hk' _ o hIe hIm (hs₂.extBut _ o hIe e))
        · obtain ⟨o, nm, qn, ho, r⟩ := hgk
          exact ⟨o, nm, qn, hk' _ o hgae hgam (hs₂.extBut _ o hgae (kk _ o hgaL hgaI ho)), r⟩
    · obtain ⟨hy, ⟨h₁, tk₁, rfl⟩, kk⟩ := hP
      rw [hkd] at hy
      dsimp only [Shared.setGen] at kk hk' ⊢
      refine wpAny_execs_nil ?_
      refine done k m₁ nx h' tk₁ _ hy hJk ⟨Fk.ns.at' fun o e => hk' _ _ (kk _ o (Ne.symm hLe) (Ne.symm hIe) e), fun b o e => hk' _ _ (kk b o (ne_none hLB e) (ne_none hIB e) (Fk.keep b o e)), Fk.above⟩ (News.keep Nk fun p hp o e => hk' _ _ (kk _ _ (hnk p hp).1 (hnk p hp).2 e)) ?_
      exact allBare_set (allBare_set hbg rfl) rfl
  · intro s'' hs''
    subst hI
    have := goes_start (prog := prog) (w := w) (A := A.in1) (s := s'') (cd := cd) (out := gout ns none) (n := n) W hLB hh hl hi (fun _ => rfl) h0 (by rw [hs'']; exact F.keep) (by rw [hs'']; exact hmL) hgr
    rw [hs''] at this
    exact this
end
end Mine
end
section
open PySem PySem.W PyProof.Rows PySem.Calls PySem.Spec
set_option maxRecDepth 100000
set_option maxHeartbeats 4000000
namespace Mine
section
variable {prog : Program} {w : World} {A : Around} {R : Result → Shared → Prop} {s : Shared} {mg mb : Str → Option Value}
/-- a walk is made -/
theorem grp_call {v : Value} (W : Wd mg mb s.heap) (hroom : A.depth < recursionLimit)
    (h : ∀ cd h₁ tk ob, h₁.Ns s.heap.objs.size (up m0 "grouping" v) → Keep s.heap h₁ → h₁.objs.size = s.heap.objs.size + 1 → (h₁.push ob).IsGen (s.heap.objs.size + 1) s.gens.size → ob.isFreed = false →
      R (.ok (.ret (.ref (s.heap.objs.size + 1)))) { s with gens := s.gens.push (.fresh (.func (bdyP 4) (genv s.heap.objs.size cd))), toks := tk, heap := h₁.push ob }) :
    codeAny (model prog w) A (.call (.ref 45) ⟨[v], []⟩) R s := by
  obtain ⟨o, pm, cd, doc, h1, h2, h3⟩ := W.fgrp
  refine codeAny_call_generator (fd := docDef "_grouping_intervals" (prmP 4) (bdyP 4) (scpP 4) pm cd doc) (body := bdyP 4) hroom h1 h2 rfl rfl rfl h3 ?_
  have hb : bindArgs (docDef "_grouping_intervals" (prmP 4) (bdyP 4) (scpP 4) pm cd doc) ⟨[v], []⟩ = (pure [(("grouping" : Str), v)] : Sem (List (Str × Value))) := rfl
  rw [hb]
  refine wpAny_pure (wpAny_newFunctionEnv (show ∀ x ∈ (scpP 4).names, x.2 ≠ .cell by decide) (locs (by rfl)) (fun h₁ hns hsb => ?_) rfl)
  have hk : Keep s.heap h₁ := fun b o e => hsb.extBut b o (Nat.ne_of_lt (Heap.lt_size e)) (Heap.get?_push_of_some _ e)
  have hsz : h₁.objs.size = s.heap.objs.size + 1 := by rw [hsb.1, Heap.size_push]
  refine ⟨W.lim.keeps hk, ?_⟩
  rw [bm1] at hns
  have z := h cd h₁ (s.toks + 1 + 1 + 1) { cls := .type "generator", data := .fields #[.int s.gens.size 0, .str "_grouping_intervals" (s.toks + 1), .str "_grouping_intervals" (s.toks + 1 + 1)] } hns hk hsz ⟨_, _, _, by rw [← hsz]; exact Heap.get?_push_size _ rfl, rfl, rfl, rfl⟩ rfl
  rw [← hsz] at z
  exact z
end
end Mine
end
section
open PySem PySem.W PyProof.Rows PySem.Calls PySem.Spec
set_option maxRecDepth 100000
set_option maxHeartbeats 4000000
namespace Mine
local macro_rules | `(tactic| walk_at "lk") => `(tactic| (repeat (first | exact up_eq | assumption | refine up_of ?_ (by decide))))
section
variable {M : Model} {A : Around} {E : Value → Shared → Prop} {s : Shared} {env : Env}
/-- a call of a def of the text -/
theorem cwF {pos : Pos} {f : Addr} {name : Str} {i : Nat} {e : Expr} {rest : List Expr} {Q : Value → Shared → Prop} (hf : FnIs s.heap f name i)
    (h : wpAny M A (spliced (backTo pos (starEach (e :: rest) env))) (fun vs s₁ => Keep s.heap s₁.heap ∧ codeAny M A (.call (.ref f) ⟨vs, []⟩) (wants Q E) s₁) E s)
    (he : starEach (e :: rest) env = (false, eval e env) :: starEach rest env := by exact Eq.refl _) :
    wpAny M A (callWith pos (.ref f) [] (backTo pos (starEach (e :: rest) env)) []) Q E s := by
  obtain ⟨o, pm, cd, doc, h1, h2, h3⟩ := hf
  exact callWith_def h2 (wpAny_mono h (fun vs s₁ h₁ => ⟨h₁.1 _ _ h1, wpAny_call h₁.2⟩) fun _ _ x => x) he
end
theorem ty_append : typeOf (.builtin "list.append") = pure (.type "method_descriptor") := by kernel_rfl
theorem boot_len : bootBuiltins "len" = some (.builtin "len") := by decide +kernel
def outs (f : Nat → Option Int) : Nat → Nat → List Int
  | _, 0 => []
  | k, d + 1 => match f k with
    | none => []
    | some y => y :: outs f (k + 1) d
def psum (t : Int) : List Int → List Int
  | [] => []
  | y :: r => (t + y) :: psum (t + y) r
theorem psum_snoc (ys : List Int) (t y : Int) : psum t (ys ++ [y]) = psum t ys ++ [t + ys.sum + y] := by
  induction ys generalizing t with
  | nil => simp [psum]
  | cons x r ih => simp only [List.cons_append, psum, ih, List.sum_cons]; congr 3; omega
theorem psum_len (ys : List Int) (t : Int) : (psum t ys).length = ys.length := by
  induction ys generalizing t with
  | nil => rfl
  | cons x r ih => simp [psum, ih]
theorem app_lobj {vs : List Value} {n : Nat} {a : Value} : Obj.mapSeq (fun x => x.push a) (lobj vs n) = lobj (vs ++ [a]) (n + 1) := by
  simp [lobj, Obj.mapSeq]
theorem news_app {h₀ h : Heap} {L rs : Addr} {m : Str → Option Value} {vs : List Value} {n : Nat} (F : Fr h₀ L h m) (N : News h₀ L h [(rs, lobj vs n)]) (a : Value) :
    Fr h₀ L (h.update rs (Obj.mapSeq fun x => x.push a)) m ∧ News h₀ L (h.update rs (Obj.mapSeq fun x => x.push a)) [(rs, lobj (vs ++ [a]) (n + 1))] :=
  news_upd (pre := []) (post := []) F N (fun p hp => by cases hp) (fun p hp => by cases hp) app_lobj rfl
theorem outs_cons {f : Nat → Option Int} {k d : Nat} {y : Int} (h : f k = some y) : outs f k (d + 1) = y :: outs f (k + 1) d := by
  rw [outs, h]
theorem outs_none {f : Nat → Option Int} {k d : Nat} (h : f k = none) : outs f k (d + 1) = [] := by
  rw [outs, h]
end Mine
end
section
open PySem PySem.W PyProof.Rows PySem.Calls PySem.Spec
set_option maxRecDepth 100000
set_option maxHeartbeats 4000000
namespace Mine
/-- the order of two lists of ints, as the codes of the operators go -/
def lexB (c : Nat) : List Int → List Int → Bool
  | x :: r, y :: t => if x = y then lexB c r t else if c = 0 then decide (x < y) else if c = 4 then decide (y < x) else true
  | [], [] => false
  | [], _ :: _ => if c = 0 then true else if c = 4 then false else true
  | _ :: _, [] => if c = 0 then false else if c = 4 then true else true
section
variable {l b : Addr} {items items2 : Array Value} {k1 k2 : Nat}
abbrev twoL (l b : Addr) (items items2 : Array Value) (k1 k2 : Nat) (v : Bool) : PySem.Spec := fun _ R s => s.heap.get? l = some { cls := .type "list", dict := none, data := .seq items k1, slots := #[] } ∧ s.heap.get? b = some { cls := .type "list", dict := none, data := .seq items2 k2, slots := #[] } ∧ R (.ok (.ret (.bool v))) s
theorem rich_lt {prog : Program} {w : World} {A : Around} {E : Value → Shared → Prop} {s : Shared} {Q : Value → Shared → Prop} {x y : Int} {t u : Tok} (h : Q (.bool (decide (x < y))) s) : wpAny (model prog w) A (richCompare .Lt (.int x t) (.int y u)) Q E s := lt_int h
theorem rich_gt {prog : Program} {w : World} {A : Around} {E : Value → Shared → Prop} {s : Shared} {Q : Value → Shared → Prop} {x y : Int} {t u : Tok} (h : Q (.bool (decide (y < x))) s) : wpAny (model prog w) A (richCompare .Gt (.int x t) (.int y u)) Q E s := gt_int h
theorem cmp_step {i c : Nat} {x y : Int} {t u : Tok} {v : Bool} (h1 : items[i]? = some (.int x t)) (h2 : items2[i]? = some (.int y u)) (hc : c = 0 ∨ c = 4 ∨ c = 3)
    (hne : x ≠ y → v = if c = 0 then decide (x < y) else if c = 4 then decide (y < x) else true)
    (next : x = y → Meets (Builtin.«list.__eq__.loop» ⟨[.ref l, .ref b, rawInt (i + 1 : Nat), rawInt c], []⟩) (twoL l b items items2 k1 k2 v)) :
    Meets (Builtin.«list.__eq__.loop» ⟨[.ref l, .ref b, rawInt i, rawInt c], []⟩) (twoL l b items items2 k1 k2 v) := by
  intro prog w A R s h
  obtain ⟨hp, g, d, tk, os⟩ := s; obtain ⟨hl, hb, h⟩ := h
  have hi1 : items[((i : Nat) : Int).toNat]? = some (.int x t) := by simpa using h1
  have hi2 : items2[((i : Nat) : Int).toNat]? = some (.int y u) := by simpa using h2
  have hcc : ((i : Int) + 1) = ((i + 1 : Nat) : Int) := by push_cast; rfl
  rcases hc with rfl | rfl | rfl
  all_goals
    wp_walk using wpAny_loadPart' hl, wpAny_loadPart' hb
    rw [hi1, hi2]
    refine wpAny_bind (wpAny_eqBool_int ?_)
    by_cases hxy : x = y
    · rw [show (x == y) = true by simp [hxy]]
      wp_walk
      rw [hcc]
      exact ⟨plainId_quiet MeetsSeq3.plain_eq_loop _, codeAny_builtin MeetsSeq3.entry_eq_loop (by
        rw [Around.under_plainId MeetsSeq3.plain_eq_loop _]
        exact next hxy prog w A R _ ⟨hl, hb, h⟩)⟩
    · rw [show (x == y) = false by simpa using hxy]
      rw [hne hxy] at h
      wp_walk using wpAny_loadPart' hl, wpAny_loadPart' hb
      rw [hi1, hi2]
      first
        | ((with_reducible show wpAny _ _ (richCompare CmpOp.Lt _ _ >>= _) _ _ _); refine wpAny_bind (rich_lt ?_); exact wpAny_pure h)
        | ((with_reducible show wpAny _ _ (richCompare CmpOp.Gt _ _ >>= _) _ _ _); refine wpAny_bind (rich_gt ?_); exact wpAny_pure h)
        | exact wpAny_pure h
theorem cmp_end {i c : Nat} {v : Bool} (h1 : items[i]? = none ∨ items2[i]? = none) (hc : c = 0 ∨ c = 4 ∨ c = 3)
    (hv : v = if c = 0 then decide (items.size < items2.size) else if c = 4 then decide (items2.size < items.size) else items.size != items2.size) :
    Meets (Builtin.«list.__eq__.loop» ⟨[.ref l, .ref b, rawInt i, rawInt c], []⟩) (twoL l b items items2 k1 k2 v) := by
  intro prog w A R s h
  obtain ⟨hp, g, d, tk, os⟩ := s; obtain ⟨hl, hb, h⟩ := h
  rw [hv] at h
  have hi : (((i : Nat) : Int)).toNat = i := by simp
  rcases hc with rfl | rfl | rfl
  all_goals
    wp_walk using wpAny_loadPart' hl, wpAny_loadPart' hb
    rw [hi]
    rcases h1 with h1 | h1
    · rw [h1]
      wp_walk using wpAny_loadPart' hl, wpAny_loadPart' hb
      exact h
    · rw [h1]
      cases items[i]? with
      | none =>
        wp_walk using wpAny_loadPart' hl, wpAny_loadPart' hb
        exact h
      | some x =>
        wp_walk using wpAny_loadPart' hl, wpAny_loadPart' hb
        exact h
end
theorem lexB_nil {c : Nat} {xs ys : List Int} (h : xs = [] ∨ ys = []) (hc : c = 0 ∨ c = 4 ∨ c = 3) : lexB c xs ys = if c = 0 then decide (xs.length < ys.length) else if c = 4 then decide (ys.length < xs.length) else xs.length != ys.length := by
  rcases h with rfl | rfl
  · cases ys <;> rcases hc with rfl | rfl | rfl <;> simp [lexB]
  · cases xs <;> rcases hc with rfl | rfl | rfl <;> simp [lexB]
theorem cmp_loop {l b : Addr} {vs us : List Value} {xs ys : List Int} {k1 k2 c : Nat} (hx : IntsAre vs xs) (hy : IntsAre us ys) (hc : c = 0 ∨ c = 4 ∨ c = 3) :
    ∀ d i, xs.length - i = d → i ≤ xs.length → i ≤ ys.length → Meets (Builtin.«list.__eq__.loop» ⟨[.ref l, .ref b, rawInt i, rawInt c], []⟩) (twoL l b vs.toArray us.toArray k1 k2 (lexB c (xs.drop i) (ys.drop i))) := by
  intro d
  induction d with
  | zero =>
    intro i h1 h2 h3
    have hi : i = xs.length := by omega
    have e1 : xs.drop i = [] := by rw [hi]; simp
    refine cmp_end (.inl ?_) hc ?_
    · simp [hx.length]; omega
    · rw [lexB_nil (.inl e1) hc, List.length_drop, List.length_drop, List.size_toArray, List.size_toArray, hx.length, hy.length]
      have a1 : (decide (xs.length - i < ys.length - i)) = decide (xs.length < ys.length) := by simp only [decide_eq_decide]; omega
      have a2 : (decide (ys.length - i < xs.length - i)) = decide (ys.length < xs.length) := by simp only [decide_eq_decide]; omega
      have a3 : (xs.length - i != ys.length - i) = (xs.length != ys.length) := by
        rw [Bool.eq_iff_iff]; simp only [bne_iff_ne, ne_eq]; omega
      rw [a1, a2, a3]
  | succ d ih =>
    intro i h1 h2 h3
    by_cases hy3 : i = ys.length
    · have e2 : ys.drop i = [] := by rw [hy3]; simp
      refine cmp_end (.inr ?_) hc ?_
      · simp [hy.length]; omega
      · rw [lexB_nil (.inr e2) hc, List.length_drop, List.length_drop, List.size_toArray, List.size_toArray, hx.length, hy.length]
        have a1 : (decide (xs.length - i < ys.length - i)) = decide (xs.length < ys.length) := by simp only [decide_eq_decide]; omega
        have a2 : (decide (ys.length - i < xs.length - i)) = decide (ys.length < xs.length) := by simp only [decide_eq_decide]; omega
        have a3 : (xs.length - i != ys.length - i) = (xs.length != ys.length) := by
          rw [Bool.eq_iff_iff]; simp only [bne_iff_ne, ne_eq]; omega
        rw [a1, a2, a3]
    · have hix : i < xs.length := by omega
      have hiy : i < ys.length := by omega
      obtain ⟨t, ht⟩ := hx.get i xs[i] (List.getElem?_eq_some_iff.mpr ⟨hix, rfl⟩)
      obtain ⟨u, hu⟩ := hy.get i ys[i] (List.getElem?_eq_some_iff.mpr ⟨hiy, rfl⟩)
      have e : lexB c (xs.drop i) (ys.drop i) = if xs[i] = ys[i] then lexB c (xs.drop (i + 1)) (ys.drop (i + 1)) else if c = 0 then decide (xs[i] < ys[i]) else if c = 4 then decide (ys[i] < xs[i]) else true := by
        rw [List.drop_eq_getElem_cons hix, List.drop_eq_getElem_cons hiy]; rfl
      refine cmp_step (x := xs[i]) (y := ys[i]) (t := t) (u := u) (by simpa using ht) (by simpa using hu) hc (fun hne => by rw [e, if_neg hne]) fun heq => ?_
      rw [e, if_pos heq]
      exact ih (i + 1) (by omega) (by omega) (by omega)
end Mine
end
section
open PySem PySem.W PyProof.Rows PySem.Calls PySem.Spec
set_option maxRecDepth 100000
set_option maxHeartbeats 4000000
namespace Mine
section
variable {l b : Addr} {vs us : List Value} {xs ys : List Int} {k1 k2 : Nat}
theorem meets_gt (hx : IntsAre vs xs) (hy : IntsAre us ys) : Meets (Builtin.«list.__gt__» ⟨[.ref l, .ref b], []⟩) (twoL l b vs.toArray us.toArray k1 k2 (lexB 4 xs ys)) := by
  intro prog w A R s h
  obtain ⟨hp, g, d, tk, os⟩ := s; obtain ⟨hl, hb, h⟩ := h
  have f3 := AutoSeq1.sub_list_list
  wp_walk using wpAny_loadPart' hl, wpAny_loadPart' hb
  exact ⟨plainId_quiet MeetsSeq3.plain_eq_loop _, codeAny_builtin MeetsSeq3.entry_eq_loop (by
    rw [Around.under_plainId MeetsSeq3.plain_eq_loop _]
    exact cmp_loop (c := 4) hx hy (.inr (.inl rfl)) _ 0 rfl (Nat.zero_le _) (Nat.zero_le _) prog w A R _ ⟨hl, hb, h⟩)⟩
theorem meets_lt (hx : IntsAre vs xs) (hy : IntsAre us ys) : Meets (Builtin.«list.__lt__» ⟨[.ref l, .ref b], []⟩) (twoL l b vs.toArray us.toArray k1 k2 (lexB 0 xs ys)) := by
  intro prog w A R s h
  obtain ⟨hp, g, d, tk, os⟩ := s; obtain ⟨hl, hb, h⟩ := h
  have f3 := AutoSeq1.sub_list_list
  wp_walk using wpAny_loadPart' hl, wpAny_loadPart' hb
  exact ⟨plainId_quiet MeetsSeq3.plain_eq_loop _, codeAny_builtin MeetsSeq3.entry_eq_loop (by
    rw [Around.under_plainId MeetsSeq3.plain_eq_loop _]
    exact cmp_loop (c := 0) hx hy (.inl rfl) _ 0 rfl (Nat.zero_le _) (Nat.zero_le _) prog w A R _ ⟨hl, hb, h⟩)⟩
theorem meets_ne (hx : IntsAre vs xs) (hy : IntsAre us ys) : Meets (Builtin.«list.__ne__» ⟨[.ref l, .ref b], []⟩) (twoL l b vs.toArray us.toArray k1 k2 (xs != ys)) := by
  intro prog w A R s h
  obtain ⟨hp, g, d, tk, os⟩ := s; obtain ⟨hl, hb, h⟩ := h
  have f3 := AutoSeq1.sub_list_list
  by_cases hs : vs.length = us.length
  · have hne : ¬ (vs.toArray.size != us.toArray.size) = true := by simp [hs]
    have e : (xs != ys) = lexB 3 xs ys := by
      have hs' : xs.length = ys.length := by rw [← hx.length, ← hy.length, hs]
      clear h hx hy hl hb hne hs f3
      induction xs generalizing ys with
      | nil => cases ys with
        | nil => rfl
        | cons => simp at hs'
      | cons x r ih => cases ys with
        | nil => simp at hs'
        | cons y t =>
          have := ih (ys := t) (by simpa using hs')
          simp only [lexB]
          by_cases hxy : x = y
          · subst hxy; rw [if_pos rfl, ← this]; simp [bne]
          · simp [hxy]
    rw [e] at h
    wp_walk using wpAny_loadPart' hl, wpAny_loadPart' hb
    exact ⟨plainId_quiet MeetsSeq3.plain_eq_loop _, codeAny_builtin MeetsSeq3.entry_eq_loop (by
      rw [Around.under_plainId MeetsSeq3.plain_eq_loop _]
      exact cmp_loop (c := 3) hx hy (.inr (.inr rfl)) _ 0 rfl (Nat.zero_le _) (Nat.zero_le _) prog w A R _ ⟨hl, hb, h⟩)⟩
  · have hne : (vs.toArray.size != us.toArray.size) = true := by simpa using hs
    have e : (xs != ys) = true := by
      rw [bne_iff_ne]
      rintro rfl
      exact hs (by rw [hx.length, hy.length])
    rw [e] at h
    wp_walk using wpAny_loadPart' hl, wpAny_loadPart' hb
    exact h
end
section
variable {prog : Program} {w : World} {A : Around} {E : Value → Shared → Prop} {s : Shared} {Q : Value → Shared → Prop} {l b : Addr} {vs us : List Value} {xs ys : List Int} {k1 k2 : Nat}
theorem gt_ints (hu : A.units < cLine) (hl : s.heap.get? l = some (lobj vs k1)) (hb : s.heap.get? b = some (lobj us k2)) (hx : IntsAre vs xs) (hy : IntsAre us ys) (h : Q (.bool (lexB 4 xs ys)) s) : wpAny (model prog w) A (compareOp .Gt (.ref l) (.ref b)) Q E s :=
  richCompare_meets_room (op := .Gt) ⟨_, hl, rfl⟩ ⟨_, hb, rfl⟩ PySem.F.slot_list_gt PySem.F.entry_list_gt (PySem.F.args_list_gt_2 _ _) (meets_gt hx hy) ⟨hl, hb, nofun, h⟩ hu
theorem lt_ints (hu : A.units < cLine) (hl : s.heap.get? l = some (lobj vs k1)) (hb : s.heap.get? b = some (lobj us k2)) (hx : IntsAre vs xs) (hy : IntsAre us ys) (h : Q (.bool (lexB 0 xs ys)) s) : wpAny (model prog w) A (compareOp .Lt (.ref l) (.ref b)) Q E s :=
  richCompare_meets_room (op := .Lt) ⟨_, hl, rfl⟩ ⟨_, hb, rfl⟩ PySem.F.slot_list_lt PySem.F.entry_list_lt (PySem.F.args_list_lt_2 _ _) (meets_lt hx hy) ⟨hl, hb, nofun, h⟩ hu
theorem ne_ints (hu : A.units < cLine) (hl : s.heap.get? l = some (lobj vs k1)) (hb : s.heap.get? b = some (lobj us k2)) (hx : IntsAre vs xs) (hy : IntsAre us ys) (h : Q (.bool (xs != ys)) s) : wpAny (model prog w) A (compareOp .NotEq (.ref l) (.ref b)) Q E s :=
  richCompare_meets_room (op := .NotEq) ⟨_, hl, rfl⟩ ⟨_, hb, rfl⟩ PySem.F.slot_list_ne PySem.F.entry_list_ne (PySem.F.args_list_ne_2 _ _) (meets_ne hx hy) ⟨hl, hb, nofun, h⟩ hu
end
def sgnI (n m : Int) : Int := if m < n then 1 else if n < m then -1 else 0
section
variable {prog : Program} {w : World} {A : Around} {R : Result → Shared → Prop} {s : Shared} {mg mb : Str → Option Value}
theorem coll_ints {l b : Addr} {vs us : List Value} {n m : Int} {k1 k2 : Nat} (W : Wd mg mb s.heap) (hroom : A.depth < recursionLimit) (hu : A.units + 10 < cLine)
    (hl : s.heap.get? l = some (lobj vs k1)) (hb : s.heap.get? b = some (lobj us k2)) (hx : IntsAre vs [100, n]) (hy : IntsAre us [100, m])
    (h : ∀ h' tk t, Keep s.heap h' → R (.ok (.ret (.int (sgnI n m) t))) { s with heap := h', toks := tk }) :
    codeAny (model prog w) A (.call (.ref 38) ⟨[.ref l, .ref b], []⟩) R s := by
  refine call_fn (binds := [("a", .ref l), ("b", .ref b)]) W.fcoll hroom W.lim (fun _ _ _ => rfl) (by rfl) fun cd h₁ F => ?_
  rw [bm2] at F
  have hu' : (A.deeper (envOf "_strcoll" (scpP 2) s.heap.objs.size 38 cd)).units < cLine := by rw [Around.deeper_units]; omega
  refine wpAny_execs_cons (wpAny_Return_some (wpAny_BinOp (wpAny_Compare1 ?_)))
  refine ld (v := .ref l) F (up_of up_eq) (ld (v := .ref b) F up_eq ?_)
  refine gt_ints hu' (F.keep _ _ hl) (F.keep _ _ hb) hx hy ?_
  refine wpAny_Compare1 (ld (v := .ref l) F (up_of up_eq) (ld (v := .ref b) F up_eq ?_))
  refine lt_ints hu' (F.keep _ _ hl) (F.keep _ _ hb) hx hy ?_
  refine sub_bool ?_
  have e : b2i (lexB 4 [100, n] [100, m]) - b2i (lexB 0 [100, n] [100, m]) = sgnI n m := by
    simp only [lexB, sgnI]
    by_cases h1 : n = m
    · subst h1; simp [b2i]
    · rcases Int.lt_or_gt_of_ne h1 with h2 | h2
      · have h3 : ¬ m < n := by omega
        simp [h1, h2, h3, b2i]
      · have h3 : ¬ n < m := by omega
        simp [h1, h2, h3, b2i]
  rw [e]
  exact h _ _ _ F.keep
end
end Mine
end
section
open PySem PySem.W PyProof.Rows PySem.Calls PySem.Spec
set_option maxRecDepth 100000
set_option maxHeartbeats 4000000
namespace Mine
theorem none_of_ge {h : Heap} {a : Addr} (ha : h.objs.size ≤ a) : h.get? a = none := by
  cases e : h.get? a with
  | none => rfl
  | some o' => exact absurd (Heap.lt_size e) (Nat.not_lt.mpr ha)
section
variable {prog : Program} {w : World} {A : Around} {R : Result → Shared → Prop} {s : Shared}
/-- what one element leaves: the new objects are free of what the loop itself writes -/
def Elt (h : Heap) (C : Addr) (off : List Addr) (h₁ : Heap) (F : Value → Heap → Prop) (s₁ : Shared) (y : Value) (s' : Shared) : Prop :=
  ∃ h' tk', s' = { s₁ with heap := h', toks := tk' } ∧ (∀ b o, b ≠ C → h.get? b = some o → h'.get? b = some o) ∧ (∃ m', h'.Ns C m') ∧
    ∀ h'', (∀ b o, h.get? b = none → h'.get? b = some o → h''.get? b = some o) → (∀ b o, b ∉ off → h₁.get? b = some o → h''.get? b = some o) → F y h''
theorem comp_loop {elt target iter : Expr} {scope : Scope} {pos : Pos} {I ax D : Addr} {cenv : Env} {items : Array Value} {m : Str → Option Value} {off : List Addr} {h₁ : Heap} (F : Nat → Value → Heap → Prop)
    (hh : A.handled = none) (hax : ax ≠ I) (hDI : D ≠ I) (hDC : D ≠ cenv.locals) (hIC : I ≠ cenv.locals) (haC : ax ≠ cenv.locals) (haD : ax ≠ D)
    (h1I : h₁.get? I = none) (h1D : h₁.get? D = none) (h1C : h₁.get? cenv.locals = none) (hk₁ : Keep h₁ s.heap) (hoff : ∀ b ∈ off, ∃ o, h₁.get? b = some o)
    (hit : s.heap.IsListIter I ax 0) (hl : s.heap.IsList ax items) (hacc : s.heap.PlainList D #[]) (hn : s.heap.Ns cenv.locals m)
    (hlet : ∀ i v s' (Q : Unit → Shared → Prop) E', items[i]? = some v → s'.heap.IsListIter I ax (i + 1) → Q () s' → wpAny (model prog w) A (letOwnedTupleGo target (.ref I) v) Q E' s')
    (helt : ∀ i v h tk m₃ E', items[i]? = some v → h.Ns cenv.locals m₃ → Keep h₁ h →
      wpAny (model prog w) A (assign target cenv v) (fun _ s₄ => wpAny (model prog w) A (eval elt cenv) (Elt h cenv.locals off h₁ (F i) s) E' s₄) E' { s with heap := h, toks := tk })
    (hR : ∀ h' tk m' ys, h'.Ns cenv.locals m' → h'.PlainList D (List.toArray ys) → ys.length = items.size →
      (∀ h'', (∀ b o, h₁.get? b = none → b ≠ cenv.locals → b ≠ I → b ≠ D → h'.get? b = some o → h''.get? b = some o) → (∀ b o, b ∉ off → h₁.get? b = some o → h''.get? b = some o) → ∀ i y, ys[i]? = some y → F i y h'') →
      Keep h₁ h' → R (.ok .next) { s with heap := h', toks := tk })
    (hsz : items.size ≤ sizeLine := by size_fits) :
    codeAny (model prog w) A (.compLoop (.ListComp elt [⟨target, iter, [], 0⟩] scope pos) 0 (.ref I) (.ref D) cenv) R s := by
  have n1 : ∀ {b c o}, h₁.get? c = none → h₁.get? b = some o → b ≠ c := fun hc e q => by rw [q, hc] at e; cases e
  refine kcp_loop
    (fun k s' => ∃ h' tk m' ys i, s' = { s with heap := h', toks := tk } ∧ h'.IsListIter I ax i ∧ h'.IsList ax items ∧ h'.PlainList D (List.toArray ys) ∧ h'.Ns cenv.locals m' ∧
      ys.length = i ∧ i ≤ items.size ∧ k = items.size + 1 - i ∧ Keep h₁ h' ∧
      (∀ h'', (∀ b o, h₁.get? b = none → b ≠ cenv.locals → b ≠ I → b ≠ D → h'.get? b = some o → h''.get? b = some o) → (∀ b o, b ∉ off → h₁.get? b = some o → h''.get? b = some o) → ∀ i y, ys[i]? = some y → F i y h'')) ?_ (items.size + 1)
    ⟨s.heap, s.toks, m, [], 0, rfl, hit, hl, hacc, hn, rfl, Nat.zero_le _, rfl, hk₁, fun _ _ _ i y e => by simp at e⟩
  rintro k s' ⟨H, tk, m', ys, i, rfl, hit', hl', hacc', hn', hlen, hi, rfl, hk, hF⟩
  cases hv : items[i]? with
  | none =>
    have hsz : items.size ≤ i := by simpa using hv
    refine wpAny_pyNext_list_end hh hit' hl' hv fun h₂ he₂ => ?_
    exact hR h₂ tk m' ys (hn'.extBut he₂ (Ne.symm hIC)) (hacc'.at fun o e => he₂ _ o hDI e) (by omega)
      (fun h'' k1 k2 => hF h'' (fun b o e1 hc hI hD e => k1 b o e1 hc hI hD (he₂ b o hI e)) k2) fun b o e => he₂ b o (n1 h1I e) (hk b o e)
  | some v =>
    have hlt : i < items.size := (Array.getElem?_eq_some_iff.mp hv).1
    refine wpAny_pyNext_list_item hit' hl' hv fun h₂ hit₂ hs₂ => ?_
    refine hlet i v _ _ _ hv hit₂ ?_
    have hn₂ : h₂.Ns cenv.locals m' := hn'.sameBut hs₂ (Ne.symm hIC)
    have hk₂ : Keep h₁ h₂ := fun b o e => hs₂.extBut b o (n1 h1I e) (hk b o e)
    refine wpAny_mono (helt i v h₂ tk m' _ hv hn₂ hk₂) (fun _ s₄ h₄ => wpAny_mono h₄ (fun y s₅ h₅ => ?_) fun _ _ e => e) fun _ _ e => e
    obtain ⟨h₅, tk₅, rfl, hk₅, ⟨m₅, hn₅⟩, hF₅⟩ := h₅
    have hacc₅ : h₅.PlainList D (List.toArray ys) := hacc'.at fun o e => hk₅ _ o hDC (hs₂.extBut _ o hDI e)
    refine wpAny_list_append_plain (hsz := by simp; omega) hacc₅ fun h₆ hl₆ hs₆ => ?_
    have hk₆ : Keep h₁ h₆ := fun b o e => hs₆.extBut b o (n1 h1D e) (hk₅ b o (n1 h1C e) (hk₂ b o e))
    refine ⟨items.size + 1 - (i + 1), by omega, h₆, tk₅, _, ys ++ [y], i + 1, rfl, ?_, ?_, ?_, hn₅.sameBut hs₆ (Ne.symm hDC), by simp [hlen], hlt, rfl, hk₆, ?_⟩
    · exact hit₂.at fun o e => hs₆.extBut _ o (Ne.symm hDI) (hk₅ _ o hIC e)
    · exact hl'.at fun o e => hs₆.extBut _ o haD (hk₅ _ o haC (hs₂.extBut _ o hax e))
    · simpa using hl₆
    · intro h'' k1 k2 j z hz
      by_cases hj : j < i
      · rw [List.getElem?_append_left (by omega)] at hz
        exact hF h'' (fun b o e1 hc hI hD e => k1 b o e1 hc hI hD (hs₆.extBut b o hD (hk₅ b o hc (hs₂.extBut b o hI e)))) k2 j z hz
      · have hj' : j = i := by
          have : (ys ++ [y])[j]? = some z := hz
          have := (List.getElem?_eq_some_iff.mp this).1
          simp at this; omega
        subst hj'
        rw [List.getElem?_append_right (by omega), hlen, Nat.sub_self] at hz
        obtain rfl : y = z := by simpa using hz
        refine hF₅ h'' (fun b o e0 e => ?_) k2
        have hbC : b ≠ cenv.locals := fun q => by
          obtain ⟨_, _, _, ho, _⟩ := hn₂; rw [q, ho] at e0; cases e0
        have hbI : b ≠ I := fun q => by
          obtain ⟨_, ho, _⟩ := hit₂; rw [q, ho] at e0; cases e0
        have hbD : b ≠ D := fun q => by
          obtain ⟨_, ho⟩ := hacc'; rw [q, hs₂.extBut _ _ hDI ho] at e0; cases e0
        refine k1 b o ?_ hbC hbI hbD (hs₆.extBut b o hbD e)
        cases q : h₁.get? b with
        | none => rfl
        | some o' => rw [hk₂ b o' q] at e0; cases e0
end
end Mine
end
section
open PySem PySem.W PyProof.Rows PySem.Calls PySem.Spec
set_option maxRecDepth 100000
set_option maxHeartbeats 4000000
namespace Mine
section
variable {prog : Program} {w : World} {A : Around} {E : Value → Shared → Prop} {R : Result → Shared → Prop} {s₁ : Shared} {env : Env}
theorem comp_block {elt target iter : Expr} {scope : Scope} {cl : List (Str × Addr)} {pos : Pos} {ax : Addr} {items : Array Value} {off : List Addr} {RR : Value → Addr → Result → Shared → Prop} (F : Nat → Value → Heap → Prop)
    (hh : A.handled = none) (hcell : ∀ y ∈ scope.names, y.2 ≠ .cell) (hkind : scope.kind = .function) (hl : s₁.heap.IsList ax items) (hsz : items.size ≤ sizeLine) (hoff : ∀ b ∈ off, ∃ o, s₁.heap.get? b = some o)
    (hlet : ∀ I i v s' (Q : Unit → Shared → Prop) E', items[i]? = some v → s'.heap.IsListIter I ax (i + 1) → Q () s' → wpAny (model prog w) A (letOwnedTupleGo target (.ref I) v) Q E' s')
    (helt : ∀ C i v h tk m₃ E', items[i]? = some v → h.Ns C m₃ → Keep s₁.heap h → s₁.heap.get? C = none →
      wpAny (model prog w) A (assign target (compEnvC scope cl C env) v) (fun _ s₄ => wpAny (model prog w) A (eval elt (compEnvC scope cl C env)) (Elt h C off s₁.heap (F i) s₁) E' s₄) E' { s₁ with heap := h, toks := tk })
    (hRR : ∀ D C h' tk m' ys n, s₁.heap.get? D = none → s₁.heap.get? C = none → D ≠ C → h'.Ns C m' → h'.get? D = some (lobj ys n) → ys.length = items.size →
      (∀ h'', (∀ b o, s₁.heap.get? b = none → b ≠ C → b ≠ D → h'.get? b = some o → h''.get? b = some o) → (∀ b o, b ∉ off → s₁.heap.get? b = some o → h''.get? b = some o) → ∀ i y, ys[i]? = some y → F i y h'') →
      Keep s₁.heap h' → RR (.ref D) C (.ok .next) { s₁ with heap := h', toks := tk }) :
    wpAny (model prog w) A (pyIter (.ref ax)) (fun it s₂ => wpAny (model prog w) A (newList []) (fun acc s₃ => wpAny (model prog w) A (newFunctionEnv scope env.globals cl [] env.qual none .none (some env)) (fun cenv s₄ =>
      codeAny (model prog w) A (.compStart (.ListComp elt [⟨target, iter, [], 0⟩] scope pos) 0 it acc { cenv with scope := relabel scope env }) (RR acc cenv.locals) s₄) E s₃) E s₂) E s₁ := by
  obtain ⟨ol, hol, hol'⟩ := id hl
  have hax : ax < s₁.heap.objs.size := Heap.lt_size hol
  refine wpAny_pyIter_list hl (wpAny_newObj_type (hd := by size_fits) (wpAny_newFunctionEnv hcell (by intro y hy; simp at hy) (fun h₁ hns₁ hsb₁ => ?_) hkind))
  dsimp only at hns₁ hsb₁ ⊢
  generalize hH1 : s₁.heap.push { cls := .type "list_iterator", data := .fields #[.ref ax, .int 0 0] } = H1 at hns₁ hsb₁ ⊢
  have hD : H1.objs.size = s₁.heap.objs.size + 1 := by rw [← hH1, Heap.size_push]
  generalize hH2 : H1.push { cls := .type "list", dict := none, data := .seq ([] : List Value).toArray } = H2 at hns₁ hsb₁ ⊢
  have hC : H2.objs.size = s₁.heap.objs.size + 2 := by rw [← hH2, Heap.size_push, hD]
  have hDI : H1.objs.size ≠ s₁.heap.objs.size := by rw [hD]; exact Nat.succ_ne_self _
  have hDC : H1.objs.size ≠ H2.objs.size := by rw [hD, hC]; exact Nat.ne_of_lt (Nat.lt_succ_self _)
  have hIC : s₁.heap.objs.size ≠ H2.objs.size := by rw [hC]; exact Nat.ne_of_lt (Nat.lt_succ_of_lt (Nat.lt_succ_self _))
  have below : ∀ b, b < s₁.heap.objs.size → b ≠ H2.objs.size ∧ b ≠ s₁.heap.objs.size ∧ b ≠ H1.objs.size := fun b hb =>
    ⟨by rw [hC]; exact Nat.ne_of_lt (Nat.lt_succ_of_lt (Nat.lt_succ_of_lt hb)), Nat.ne_of_lt hb, by rw [hD]; exact Nat.ne_of_lt (Nat.lt_succ_of_lt hb)⟩
  have old : Keep s₁.heap h₁ := fun b o e =>
    hsb₁.extBut b o (below b (Heap.lt_size e)).1 (Heap.get?_push_of_some _ (hH2 ▸ Heap.get?_push_of_some _ (hH1 ▸ Heap.get?_push_of_some _ e)))
  have hit : h₁.IsListIter s₁.heap.objs.size ax 0 :=
    ⟨_, hsb₁.extBut _ _ hIC (Heap.get?_push_of_some _ (hH2 ▸ Heap.get?_push_of_some _ (hH1 ▸ Heap.get?_push_size _ rfl))), rfl, rfl⟩
  have hacc : h₁.PlainList H1.objs.size #[] := ⟨_, hsb₁.extBut _ _ hDC (Heap.get?_push_of_some _ (hH2 ▸ Heap.get?_push_size _ rfl))⟩
  have hl₁ : h₁.IsList ax items := ⟨ol, old _ _ hol, hol'⟩
  have nD : s₁.heap.get? H1.objs.size = none := none_of_ge (by rw [hD]; exact Nat.le_succ _)
  have nC : s₁.heap.get? H2.objs.size = none := none_of_ge (by rw [hC]; exact Nat.le_add_right _ 2)
  have loop : ∀ s₂ : Shared, s₂ = { s₁ with heap := h₁, toks := s₁.toks + ([] : List (Str × Value)).length } →
      codeAny (model prog w) A (.compLoop (.ListComp elt [⟨target, iter, [], 0⟩] scope pos) 0 (.ref s₁.heap.objs.size) (.ref H1.objs.size) (compEnvC scope cl H2.objs.size env))
        (RR (.ref H1.objs.size) H2.objs.size) s₂ := by
    rintro s₂ rfl
    refine comp_loop (cenv := compEnvC scope cl H2.objs.size env) (h₁ := s₁.heap) (off := off) F hh (below _ hax).2.1 hDI hDC hIC (below _ hax).1 (below _ hax).2.2 (none_of_ge (Nat.le_refl _)) nD nC old hoff hit hl₁ hacc hns₁ (hlet _) ?_ ?_ hsz
    · intro i v h tk m₃ E' hv hn hk
      exact helt H2.objs.size i v h tk m₃ E' hv hn hk nC
    · rintro h' tk m' ys hn ⟨n, hpl⟩ hlen hF hk
      refine hRR _ _ h' tk m' ys n nD nC hDC hn hpl hlen (fun h'' k1 k2 => hF h'' (fun b o e0 hc hI hD' e => k1 b o e0 hc hD' e) k2) hk
  exact codeAny_compStart_list (loop _ rfl) (wpAny_pyIter_listiter hit (loop _ rfl))
/-- a comprehension's value -/
theorem comp_eval {s : Shared} {elt target iter : Expr} {scope : Scope} {cl : List (Str × Addr)} {pos : Pos} {Q : Value → Shared → Prop}
    (hh : A.handled = none)
    (h : wpAny (model prog w) A (eval iter env) (fun xv s₁ => ∃ (ax : Addr) (items : Array Value) (F : Nat → Value → Heap → Prop), xv = .ref ax ∧ s₁.heap.IsList ax items ∧ items.size ≤ sizeLine ∧
      (∀ I i v s' (Q : Unit → Shared → Prop) E', items[i]? = some v → s'.heap.IsListIter I ax (i + 1) → Q () s' → wpAny (model prog w) A (letOwnedTupleGo target (.ref I) v) Q E' s') ∧
      (∀ C i v h tk m₃ E', items[i]? = some v → h.Ns C m₃ → Keep s₁.heap h → s₁.heap.get? C = none →
        wpAny (model prog w) A (assign target (compEnvC scope cl C env) v) (fun _ s₄ => wpAny (model prog w) A (eval elt (compEnvC scope cl C env)) (Elt h C [] s₁.heap (F i) s₁) E' s₄) E' { s₁ with heap := h, toks := tk }) ∧
      (∀ D h' tk ys n, s₁.heap.get? D = none → h'.get? D = some (lobj ys n) → ys.length = items.size → (∀ i y, ys[i]? = some y → F i y h') → Keep s₁.heap h' → Q (.ref D) { s₁ with heap := h', toks := tk })) E s)
    (hclos : closureFor scope env = pure cl := by rfl) (hcell : ∀ y ∈ scope.names, y.2 ≠ .cell := by decide) (hkind : scope.kind = .function := by rfl)
    (hnames : ∀ y ∈ scope.names, y.2 = .local → scope.names.lookup y.1 = some .local := by decide)
    (hs : ∀ x, foldedSetIterable iter env x = pure x := by intro _; rfl) :
    wpAny (model prog w) A (eval (.ListComp elt [⟨target, iter, [], 0⟩] scope pos) env) Q E s := by
  rw [eval_ListComp]
  refine wpAny_comprehension_free (use := none) rfl hs hclos hkind hnames (wpAny_mono h (fun xv s₁ h₁ => ?_) fun _ _ e => e)
  obtain ⟨ax, items, F, rfl, hl, hsz, hlet, helt, hQ⟩ := h₁
  refine comp_block (off := []) (RR := fun acc C => compPost (model prog w) A E none Q acc C) F hh hcell hkind hl hsz (fun b hb => by cases hb) hlet helt ?_
  intro D C h' tk m' ys n hD hC hDC hn hl hlen hF hk
  refine ⟨m', hn, fun h'' hs'' => ?_⟩
  have nC : ∀ {b o}, s₁.heap.get? b = some o → b ≠ C := fun e q => by rw [q, hC] at e; cases e
  have hk'' : Keep s₁.heap h'' := fun b o e => hs''.extBut b o (nC e) (hk b o e)
  exact hQ D h'' tk ys n hD (hs''.extBut _ _ hDC hl) hlen (hF h'' (fun b o _ hc _ e => hs''.extBut b o hc e) fun b o _ e => hk'' b o e) hk''
/-- a comprehension put under a name at once -/
theorem comp_assign {s : Shared} {h₀ : Heap} {elt target iter : Expr} {y : Str} {py : Pos} {scope : Scope} {cl : List (Str × Addr)} {pos spos : Pos} {Q : Flow → Shared → Prop}
    (hh : A.handled = none)
    (h : wpAny (model prog w) A (eval iter env) (fun xv s₁ => ∃ (ax : Addr) (items : Array Value) (F : Nat → Value → Heap → Prop) (m : Str → Option Value) (news : List (Addr × Obj)), xv = .ref ax ∧ s₁.heap.IsList ax items ∧ items.size ≤ sizeLine ∧ Fr h₀ env.locals s₁.heap m ∧ News h₀ env.locals s₁.heap news ∧
      (∀ I i v s' (Q : Unit → Shared → Prop) E', items[i]? = some v → s'.heap.IsListIter I ax (i + 1) → Q () s' → wpAny (model prog w) A (letOwnedTupleGo target (.ref I) v) Q E' s') ∧
      (∀ C i v h tk m₃ E', items[i]? = some v → h.Ns C m₃ → Keep s₁.heap h → s₁.heap.get? C = none →
        wpAny (model prog w) A (assign target (compEnvC scope cl C env) v) (fun _ s₄ => wpAny (model prog w) A (eval elt (compEnvC scope cl C env)) (Elt h C [env.locals] s₁.heap (F i) s₁) E' s₄) E' { s₁ with heap := h, toks := tk }) ∧
      (∀ D h' tk ys n, h'.get? D = some (lobj ys n) → ys.length = items.size → (∀ i y, ys[i]? = some y → F i y h') → Fr h₀ env.locals h' (up m y (.ref D)) → News h₀ env.locals h' ((D, lobj ys n) :: news) →
        (∀ b o, b ≠ env.locals → s₁.heap.get? b = some o → h'.get? b = some o) → s₁.heap.get? D = none → Q .next { s₁ with heap := h', toks := tk })) E s)
    (hsw : swapsWith (.ListComp elt [⟨target, iter, [], 0⟩] scope pos) (some (.Name y py)) spos.line env = pure true := by rfl)
    (hclos : closureFor scope env = pure cl := by rfl) (hcell : ∀ y ∈ scope.names, y.2 ≠ .cell := by decide) (hkind : scope.kind = .function := by rfl)
    (hnames : ∀ y ∈ scope.names, y.2 = .local → scope.names.lookup y.1 = some .local := by decide)
    (hy : env.kindOf y = some .local := by rfl) (hp : (env.scope.kind == .class || (env.scope.kind == .module && env.locals != env.globals)) = false := by rfl)
    (hs : ∀ x, foldedSetIterable iter env x = pure x := by intro _; rfl) :
    wpAny (model prog w) A (exec (.Assign [.Name y py] (.ListComp elt [⟨target, iter, [], 0⟩] scope pos) spos) env) Q E s := by
  rw [exec_Assign_Name_used _ _ _ _ hsw]
  refine wpAny_bind (wpAny_standAt (wpAny_bind ?_))
  show wpAny _ A (do let _ ← comprehension (.ListComp elt [⟨target, iter, [], 0⟩] scope pos) scope env _ (newList []) false (eval iter env) (some (assign (.Name y py) env))) _ _ s
  refine wpAny_bind (wpAny_mono (wpAny_comprehension_free (use := some (assign (.Name y py) env)) (Q := fun _ s' => Q .next s') rfl hs hclos hkind hnames
    (wpAny_mono h (fun xv s₁ h₁ => ?_) fun _ _ e => e)) (fun _ s' hq => wpAny_pure (wpAny_pure hq)) fun _ _ e => e)
  obtain ⟨ax, items, F, m, news, rfl, hl, hsz, Fr₁, N₁, hlet, helt, hQ⟩ := h₁
  refine comp_block (off := [env.locals]) (RR := fun acc C => compPost (model prog w) A E (some (assign (.Name y py) env)) (fun _ s' => Q .next s') acc C) F hh hcell hkind hl hsz ?_ hlet helt ?_
  · intro b hb
    obtain ⟨o, _, _, ho, _⟩ := Fr₁.ns
    exact ⟨o, (List.mem_singleton.mp hb) ▸ ho⟩
  intro D C h' tk m' ys n hD hC hDC hnC hlD hlen hF hk
  have nC : ∀ {b o}, s₁.heap.get? b = some o → b ≠ C := fun e q => by rw [q, hC] at e; cases e
  have nD : ∀ {b o}, s₁.heap.get? b = some o → b ≠ D := fun e q => by rw [q, hD] at e; cases e
  obtain ⟨oL, _, _, hoL, _⟩ := id Fr₁.ns
  have hLC : env.locals ≠ C := nC hoL
  have hLD : env.locals ≠ D := nD hoL
  show wpAny _ A (assign (.Name y py) env (.ref D)) _ _ _
  have F' : Fr h₀ env.locals h' m := Fr₁.after hk
  refine wpAny_assign_Name (wpAny_storeName_local hy F'.ns (fun h₂ hn₂ hs₂ => ?_) hp)
  have F₂ : Fr h₀ env.locals h₂ (up m y (.ref D)) := F'.set hn₂ hs₂
  refine ⟨m', hnC.sameBut hs₂ (Ne.symm hLC), fun h₃ hs₃ => ?_⟩
  have hk₃ : ∀ b o, b ≠ env.locals → s₁.heap.get? b = some o → h₃.get? b = some o := fun b o hb e => hs₃.extBut b o (nC e) (hs₂.extBut b o hb (hk b o e))
  have hD₃ : h₃.get? D = some (lobj ys n) := hs₃.extBut _ _ hDC (hs₂.extBut _ _ (Ne.symm hLD) hlD)
  have h0D : h₀.get? D = none := by
    cases q : h₀.get? D with
    | none => rfl
    | some o => rw [Fr₁.keep _ _ q] at hD; cases hD
  have h0C : h₀.get? C = none := by
    cases q : h₀.get? C with
    | none => rfl
    | some o => rw [Fr₁.keep _ _ q] at hC; cases hC
  have F₃ : Fr h₀ env.locals h₃ (up m y (.ref D)) := F₂.change hs₃ (Ne.symm hLC) h0C
  refine hQ D h₃ _ ys n hD₃ hlen (hF h₃ (fun b o e0 hc hd e => ?_) fun b o hb e => hk₃ b o (fun q => hb (q ▸ .head _)) e) F₃ ?_ hk₃ hD
  · refine hs₃.extBut b o hc (hs₂.extBut b o (fun q => ?_) e)
    rw [q, hoL] at e0; cases e0
  · intro p hp
    rcases List.mem_cons.mp hp with rfl | hp
    · exact ⟨hD₃, Ne.symm hLD, h0D⟩
    · exact ⟨hk₃ _ _ (N₁ p hp).2.1 (N₁ p hp).1, (N₁ p hp).2⟩
end
end Mine
end
section
open PySem PySem.W PyProof.Rows PySem.Calls PySem.Spec
set_option maxRecDepth 100000
set_option maxHeartbeats 4000000
namespace Mine
section
variable {prog : Program} {w : World} {A : Around} {E : Value → Shared → Prop} {s s₁ : Shared} {env : Env}
/-- an element under one name -/
theorem elt_name {elt : Expr} {x : Str} {px : Pos} {v : Value} {h : Heap} {tk : Nat} {m : Str → Option Value} {off : List Addr} {F : Value → Heap → Prop} (hn : h.Ns env.locals m) (hk : Keep s₁.heap h) (hC : s₁.heap.get? env.locals = none)
    (step : ∀ h₂ tk₂, h₂.Ns env.locals (up m x v) → Keep s₁.heap h₂ →
      wpAny (model prog w) A (eval elt env) (fun y s₅ => ∃ h' tk', s₅ = { s₁ with heap := h', toks := tk' } ∧ Keep h₂ h' ∧
        ∀ h'', (∀ b o, h₂.get? b = none → h'.get? b = some o → h''.get? b = some o) → (∀ b o, b ∉ off → s₁.heap.get? b = some o → h''.get? b = some o) → F y h'') E { s₁ with heap := h₂, toks := tk₂ })
    (hx : env.kindOf x = some .local := by rfl) (hp : (env.scope.kind == .class || (env.scope.kind == .module && env.locals != env.globals)) = false := by rfl) :
    wpAny (model prog w) A (assign (.Name x px) env v) (fun _ s₄ => wpAny (model prog w) A (eval elt env) (Elt h env.locals off s₁.heap F s₁) E s₄) E { s₁ with heap := h, toks := tk } := by
  refine wpAny_assign_Name (wpAny_storeName_local hx hn (fun h₂ hn₂ hs₂ => ?_) hp)
  have hk₂ : Keep s₁.heap h₂ := fun b o e => hs₂.extBut b o (fun q => by rw [q, hC] at e; cases e) (hk b o e)
  refine wpAny_mono (step h₂ _ hn₂ hk₂) (fun y s₅ h₅ => ?_) fun _ _ e => e
  obtain ⟨h', tk', rfl, hk', hF⟩ := h₅
  refine ⟨h', tk', rfl, fun b o hb e => hk' b o (hs₂.extBut b o hb e), ⟨_, hn₂.keeps hk'⟩, fun h'' k1 k2 => hF h'' (fun b o e0 e => k1 b o ?_ e) k2⟩
  cases q : h.get? b with
  | none => rfl
  | some o' =>
    by_cases hb : b = env.locals
    · obtain ⟨_, _, _, ho, _⟩ := hn₂
      rw [hb, ho] at e0; cases e0
    · rw [hs₂.extBut b o' hb q] at e0; cases e0
theorem pair_list {a b : Str} {pa pb tp : Pos} {kk : Nat} {l : Addr} {x y : Value} {m : Str → Option Value} {Q : Unit → Shared → Prop} (hh : A.handled = none) (hl : s.heap.IsList l #[x, y])
    (hn : s.heap.Ns env.locals m)
    (h : ∀ (h' : Heap) (tk : Nat), h'.Ns env.locals (up (up m a x) b y) → (∀ c o, c ≠ env.locals → s.heap.get? c = some o → h'.get? c = some o) → Q () { s with heap := h', toks := tk })
    (ha : env.kindOf a = some .local := by rfl) (hb : env.kindOf b = some .local := by rfl) (hp : (env.scope.kind == .class || (env.scope.kind == .module && env.locals != env.globals)) = false := by rfl) :
    wpAny (model prog w) A (assign (.Tuple [.Name a pa, .Name b pb] kk tp) env (.ref l)) Q E s := by
  rw [assign_Tuple]
  refine wpAny_bind (wpAny_standAt ?_)
  unfold unpack
  have e1 : (assignEach [.Name a pa, .Name b pb] env).length = (#[x, y] : Array Value).size := by rfl
  have e2 : (assignEach [.Name a pa, .Name b pb] env).findIdx? (·.1) = none := by rfl
  rw [e1, e2]
  refine wpAny_bind (wpAny_holding (kun_itemsOf hh hl fun h₁ he₁ => ?_))
  have hL : env.locals ≠ s.heap.objs.size := Nat.ne_of_lt hn.lt
  have hn₁ : h₁.Ns env.locals m := hn.at' fun o e => he₁ _ o hL e
  have up₁ : ∀ c o, s.heap.get? c = some o → h₁.get? c = some o := fun c o e => he₁ c o (Nat.ne_of_lt (Heap.lt_size e)) e
  show wpAny _ _ (assignInOrder [assign (.Name a pa) env, assign (.Name b pb) env] [x, y]) _ _ _
  refine assignInOrder_cons ?_
  refine wpAny_assign_Name (wpAny_storeName_local ha hn₁ (fun h₂ hn₂ hs₂ => ?_) hp)
  refine assignInOrder_cons ?_
  refine wpAny_assign_Name (wpAny_storeName_local hb hn₂ (fun h₃ hn₃ hs₃ => ?_) hp)
  refine assignInOrder_nil ?_
  exact h h₃ _ hn₃ fun c o hc e => hs₃.extBut c o hc (hs₂.extBut c o hc (up₁ c o e))
theorem sub_list {value slice : Expr} {l : Addr} {vs : List Value} {k : Int} {u : Tok} {x : Value} {Q : Value → Shared → Prop} (hl : s.heap.IsList l vs.toArray) (h0 : 0 ≤ k) (hfit : k < 2 ^ 63) (hx : vs[k.toNat]? = some x) (h : Q x s)
    (hs : subscripted slice false (.ref l) (.int k u) = operate [.ref l, .int k u] (getItem (.ref l) (.int k u)) := by with_unfolding_all rfl) :
    wpAny (model prog w) A (subscriptTail value slice (.ref l) (.int k u)) Q E s :=
  tail_any hl.typeIs slot_list_getitem.lookup (wpAny_getItem_list hl h0 hfit (by rw [List.getElem?_toArray]; exact hx) h) hs
/-- a method of a built-in type, two arguments -/
theorem meth2 {o e e2 : Expr} {name : Str} {apos pos : Pos} {T id : String} {B : Builtin} {Q : Value → Shared → Prop} (pa : PlainAttrs T) (slot : Slot T name id) (hty : typeOf (.builtin id) = pure (.type "method_descriptor")) (entry : entryFor table id = some B)
    (h : wpAny (model prog w) A (eval o env) (fun ov s₁ => s₁.TypeIs ov T ∧ (∀ a, ov = .ref a → ∃ ob, s₁.heap.get? a = some ob ∧ ob.dict = none) ∧
      wpAny (model prog w) A (eval e env) (fun v s₂ => wpAny (model prog w) A (eval e2 env) (fun v2 s₃ => s₃.TypeIs ov T ∧ argsOk id ⟨[ov, v, v2], []⟩ ∧ ∃ S, Meets (B ⟨[ov, v, v2], []⟩) S ∧ S A (wants Q E) s₃) E s₂) E s₁) E s)
    (hbase : attributeBase o name env (eval o env) = eval o env := by rfl)
    (hfew : ((backTo pos (starEach [e, e2] env)).all (fun x => !x.1) && (backToKw pos (keywordEach [] env)).all (fun x => x.1.isSome)
      && decide ([e, e2].length + ([] : List Keyword).length + (if ([] : List Keyword).isEmpty then 0 else 1) < 30)) = true := by rfl)
    (hline : (apos.endLine == pos.line) = true := by rfl) (he : starEach [e, e2] env = [(false, eval e env), (false, eval e2 env)] := by rfl) :
    wpAny (model prog w) A (eval (.Call (.Attribute o name apos) [e, e2] [] pos) env) Q E s := by
  refine wpAny_Call_method hbase hfew hline pa slot hty (wpAny_mono h (fun ov s₁ h₁ => ⟨h₁.1, h₁.2.1, ?_⟩) fun _ _ x => x)
  refine method_meets slot entry (by rw [he]; rfl) ?_
  rw [he]
  exact evalArgs_plain (spliced_cons (wpAny_mono h₁.2.2 (fun v s₂ h₂ => spliced_cons (wpAny_mono h₂ (fun v2 s₃ h₃ => spliced_nil ⟨rfl, h₃⟩) fun _ _ x => x)) fun _ _ x => x))
end
theorem ty_insert : typeOf (.builtin "list.insert") = pure (.type "method_descriptor") := PySem.F.type_list_insert
theorem News.consNew {h₀ h h' : Heap} {L r : Addr} {m : Str → Option Value} {nx : List (Addr × Obj)} {o : Obj} (F : Fr h₀ L h m) (N : News h₀ L h' nx) (hr : h.get? r = none) (hr' : h'.get? r = some o) : News h₀ L h' ((r, o) :: nx) := by
  intro p hp
  rcases List.mem_cons.mp hp with rfl | hp
  · refine ⟨hr', fun q => ?_, ?_⟩
    · obtain ⟨_, _, _, ho, _⟩ := F.ns
      change r = L at q
      rw [q, ho] at hr; cases hr
    · cases q : h₀.get? r with
      | none => rfl
      | some o => rw [F.keep _ _ q] at hr; cases hr
  · exact N p hp
end Mine
end
section
open PySem PySem.W PyProof.Rows PySem.Calls PySem.Spec PySem.NumText
set_option maxRecDepth 100000
set_option maxHeartbeats 4000000
namespace Mine
section
variable {prog : Program} {w : World} {A : Around} {E : Value → Shared → Prop} {s : Shared} {env : Env} {h₀ : Heap}
/-- for_list, with the iterator's object alive -/
theorem for_list2 {R : Result → Shared → Prop} {x : Str} {px : Pos} {body : List Stmt} {m₀ : Str → Option Value} {news : List (Addr × Obj)} {l : Addr} {items : Array Value} (hh : A.handled = none) (hl : s.heap.IsList l items)
    (J : Nat → (Str → Option Value) → List (Addr × Obj) → Array GenState → Prop) (mt : List Addr) (hlm : l ∉ mt) (hlL : l ≠ env.locals) (hmt : ∀ a ∈ mt, a < s.heap.objs.size)
    (F : Fr h₀ env.locals s.heap m₀) (N : News h₀ env.locals s.heap news) (hJ : J 0 m₀ news s.gens)
    (turn : ∀ I i v m₁ nx h tk g, items[i]? = some v → J i m₁ nx g → Fr h₀ env.locals h (up m₁ x v) → News h₀ env.locals h nx → (∀ p ∈ nx, p.1 ≠ I) → (∃ o, h.get? I = some o) → I ≠ env.locals → I ∉ mt → ∀ E',
      wpAny (model prog w) A (execs body env) (TurnEnd h₀ env.locals R (J (i + 1)) [I] mt h s) E' { s with heap := h, toks := tk, gens := g })
    (done : ∀ m₁ nx h tk g, J items.size m₁ nx g → Fr h₀ env.locals h m₁ → News h₀ env.locals h nx → R (.ok .next) { s with heap := h, toks := tk, gens := g })
    (hkx : env.kindOf x = some .local := by rfl) (hp : (env.scope.kind == .class || (env.scope.kind == .module && env.locals != env.globals)) = false := by rfl) :
    wpAny (model prog w) A (pyIter (.ref l)) (fun it s₂ => codeAny (model prog w) A (.forLoop (.Name x px) it body [] env) R s₂) E s := by
  refine wpAny_pyIter_list hl ?_
  obtain ⟨ol, hol, _⟩ := id hl
  have hlI : l ≠ s.heap.objs.size := Nat.ne_of_lt (Heap.lt_size hol)
  have hLI : env.locals ≠ s.heap.objs.size := Nat.ne_of_lt F.ns.lt
  have hIm : s.heap.objs.size ∉ mt := fun q => Nat.lt_irrefl _ (hmt _ q)
  refine for_walk (Walks.list hh s.heap.objs.size l hlI items) (fun i h st b hb => ?_) J mt ?_ ?_ ?_ (F.push _) (fun p hp => ⟨Heap.get?_push_of_some _ (N p hp).1, (N p hp).2⟩) ⟨⟨_, Heap.get?_push_size _ rfl, rfl, rfl⟩, hl.push _⟩ hJ ?_ ?_ ?_ hkx hp
  · obtain ⟨o, ho, _⟩ := st.1
    exact ⟨o, (List.mem_singleton.mp hb) ▸ ho⟩
  · intro q
    rcases List.mem_cons.mp q with e | q
    · exact hLI e
    · exact hlL (List.mem_singleton.mp q).symm
  · intro a ha q
    rcases List.mem_cons.mp q with e | q
    · exact hIm (e ▸ ha)
    · exact hlm ((List.mem_singleton.mp q) ▸ ha)
  · intro b hb
    rw [List.mem_singleton.mp hb]
    cases q : h₀.get? s.heap.objs.size with
    | none => rfl
    | some o => exact absurd (Heap.lt_size (F.keep _ _ q)) (Nat.lt_irrefl _)
  · intro p hp q
    exact absurd (Heap.lt_size (N p hp).1) ((List.mem_singleton.mp q) ▸ Nat.lt_irrefl _)
  · intro i v m₁ nx h tk g hi hP hJi Fi Ni hni hx E'
    exact turn _ i v m₁ nx h tk g hP hJi Fi Ni (fun p hp e => hni p hp (List.mem_singleton.mpr e)) (hx _ (List.mem_singleton.mpr rfl)) (Ne.symm hLI) hIm E'
  · intro m₁ nx h tk g hJn Fn Nn _
    exact done m₁ nx h tk g hJn Fn Nn
end
/-! the plain insertion -/
def insD (q : List Nat) : List (List Nat) → List (List Nat)
  | [] => [q]
  | p :: r => if digitsVal q ≤ digitsVal p then p :: insD q r else q :: p :: r
def fall (qs : List (List Nat)) : List (List Nat) := qs.foldl (fun row q => insD q row) []
theorem insD_at (q : List Nat) (row : List (List Nat)) (k : Nat) (hk : k ≤ row.length) (h1 : ∀ j p, j < k → row[j]? = some p → digitsVal q ≤ digitsVal p) (h2 : ∀ p, row[k]? = some p → ¬ digitsVal q ≤ digitsVal p) :
    insD q row = row.take k ++ q :: row.drop k := by
  induction row generalizing k with
  | nil => simp at hk; subst hk; rfl
  | cons p r ih =>
    cases k with
    | zero => simp [insD, h2 p (by simp)]
    | succ k =>
      rw [insD, if_pos (h1 0 p (by omega) (by simp)), ih k (by simpa using hk) (fun j p' hj e => h1 (j + 1) p' (by omega) (by simpa using e)) (fun p' e => h2 p' (by simpa using e))]
      simp
theorem insD_len (q : List Nat) (row : List (List Nat)) : (insD q row).length = row.length + 1 := by
  induction row with
  | nil => rfl
  | cons p r ih => simp only [insD]; split <;> simp [ih]
theorem fall_snoc (qs : List (List Nat)) (q : List Nat) : fall (qs ++ [q]) = insD q (fall qs) := by simp [fall, List.foldl_append]
theorem fall_len (qs : List (List Nat)) : (fall qs).length = qs.length := by
  have : ∀ (qs row : List (List Nat)), (qs.foldl (fun row q => insD q row) row).length = row.length + qs.length := by
    intro qs
    induction qs with
    | nil => intro row; rfl
    | cons q r ih => intro row; simp only [List.foldl_cons, ih, insD_len, List.length_cons]; omega
  rw [fall, this qs []]; simp
theorem Paired.get {α β : Type} {F : α → β → Prop} {l₁ : List α} {l₂ : List β} (h : Paired F l₁ l₂) : ∀ {i : Nat} {b : β}, l₂[i]? = some b → ∃ a, l₁[i]? = some a ∧ F a b := by
  induction h with
  | nil => intro i b e; simp at e
  | cons h t ih =>
    intro i b e
    cases i with
    | zero => exact ⟨_, rfl, by simp at e; exact e ▸ h⟩
    | succ i => simpa using ih (i := i) (by simpa using e)
theorem Paired.append {α β : Type} {F : α → β → Prop} {l₁ k₁ : List α} {l₂ k₂ : List β} (h : Paired F l₁ l₂) (k : Paired F k₁ k₂) : Paired F (l₁ ++ k₁) (l₂ ++ k₂) := by
  induction h with
  | nil => exact k
  | cons h t ih => exact .cons h ih
theorem Paired.take {α β : Type} {F : α → β → Prop} {l₁ : List α} {l₂ : List β} (h : Paired F l₁ l₂) : ∀ n, Paired F (l₁.take n) (l₂.take n) := by
  induction h with
  | nil => intro n; simp only [List.take_nil]; exact .nil
  | cons h t ih => intro n; cases n with
    | zero => exact .nil
    | succ n => exact .cons h (ih n)
theorem Paired.drop {α β : Type} {F : α → β → Prop} {l₁ : List α} {l₂ : List β} (h : Paired F l₁ l₂) : ∀ n, Paired F (l₁.drop n) (l₂.drop n) := by
  induction h with
  | nil => intro n; simp only [List.drop_nil]; exact .nil
  | cons h t ih => intro n; cases n with
    | zero => exact .cons h t
    | succ n => exact ih n
theorem Paired.imp {α β : Type} {F G : α → β → Prop} {l₁ : List α} {l₂ : List β} (h : Paired F l₁ l₂) (k : ∀ a b, F a b → G a b) : Paired G l₁ l₂ := by
  induction h with
  | nil => exact .nil
  | cons h t ih => exact .cons (k _ _ h) ih
/-- one entry of the row -/
def Cell (rest : List (Addr × Obj)) (v : Value) (q : List Nat) : Prop :=
  ∃ a rd us k n t, v = .ref a ∧ (a, lobj [.ref rd, .str ⟨q.toArray⟩ t] n) ∈ rest ∧ (rd, lobj us k) ∈ rest ∧ IntsAre us [100, (digitsVal q : Nat)]
theorem ins_lobj {vs : List Value} {n k : Nat} {y : Value} (hk : k ≤ vs.length) :
    Obj.mapSeq (fun xs : Array Value => have j := if (k : Int) < 0 then ((k : Int) + (xs.size : Int)).toNat else min (k : Int).toNat xs.size; (xs.extract 0 j).push y ++ xs.extract j) (lobj vs n) = lobj (vs.take k ++ y :: vs.drop k) (n + 1) := by
  have e : (if (k : Int) < 0 then ((k : Int) + (vs.toArray.size : Int)).toNat else min (k : Int).toNat vs.toArray.size) = k := by
    rw [if_neg (by omega)]; simp; omega
  have e2 : (vs.toArray.extract 0 k).push y ++ vs.toArray.extract k = (vs.take k ++ y :: vs.drop k).toArray := by
    apply Array.toList_inj.mp
    simp
    exact List.take_of_length_le (by simp)
  simp only [lobj, Obj.mapSeq, e, e2]
  simp
  omega
end Mine
end
section
open PySem PySem.W PyProof.Rows PySem.Calls PySem.Spec PySem.NumText
set_option maxRecDepth 100000
set_option maxHeartbeats 4000000
namespace Mine
local macro_rules | `(tactic| walk_at "lk") => `(tactic| (repeat (first | exact up_eq | assumption | refine up_of ?_ (by decide))))
theorem cut_one {q : List Nat} (h : digP q) : Cut [q] := ⟨.inr ⟨h, fun c e => by simp at e⟩, trivial⟩
theorem dgB_of {q : List Nat} (h : digP q) : dgB q = true := by
  obtain ⟨h1, h2⟩ := h
  cases q with
  | nil => exact absurd rfl h1
  | cons c r => exact decide_eq_true (h2 c (.head _))
theorem cv_one {q : List Nat} (h : digP q) : cvOut [q] = [(100 : Int), ((digitsVal q : Nat) : Int)] := by simp [cvOut, outOf, dgB_of h]
theorem StrsAre.len {vs : List Value} {qs : List (List Nat)} (h : StrsAre vs qs) : vs.length = qs.length := by
  induction h with
  | nil => rfl
  | cons h ih => simp [ih]
theorem strs_of {vs : List Value} : ∀ {qs : List (List Nat)}, vs.length = qs.length → (∀ (i : Nat) (v : Value), vs[i]? = some v → ∃ (q : List Nat) (t : Tok), qs[i]? = some q ∧ v = Value.str ⟨q.toArray⟩ t) → StrsAre vs qs := by
  induction vs with
  | nil => intro qs hl _; cases qs with
    | nil => exact .nil
    | cons => simp at hl
  | cons v r ih => intro qs hl h; cases qs with
    | nil => simp at hl
    | cons q qs =>
      obtain ⟨q', t, e, rfl⟩ := h 0 v rfl
      obtain rfl : q = q' := by simpa using e
      exact .cons (ih (by simpa using hl) fun i v e => by simpa using h (i + 1) v (by simpa using e))
def insF (x : Int) (y : Value) (xs : Array Value) : Array Value := have j := if x < 0 then (x + (xs.size : Int)).toNat else min x.toNat xs.size; (xs.extract 0 j).push y ++ xs.extract j
theorem ins_meets {r : Addr} {rvs : List Value} {n : Nat} {x : Int} {tt : Tok} {y : Value} {A : Around} {R : Result → Shared → Prop} {s : Shared} (hl : 0 ≤ x ∧ x < 10000 ∧ rvs.length < 10000) (h0 : s.heap.get? r = some (lobj rvs n))
    (hR : R (.ok (.ret .none)) { s with heap := s.heap.update r (Obj.mapSeq (insF x y)) }) : ∃ S, Meets (Builtin.«list.insert» ⟨[.ref r, .int x tt, y], []⟩) S ∧ S A R s := by
  have hfit : ¬(!Builtin.List.listFitsIndex x) = true := by
    unfold Builtin.List.listFitsIndex
    simp
    omega
  have hs : rvs.toArray.size ≤ sizeLine := by rw [sizeLine_eq, List.size_toArray]; omega
  have hM := @PySem.AutoSeq1.list_insert_list_int_val_1 r rvs.toArray n x tt y hfit
  exact ⟨_, hM hs, h0, hR⟩
theorem insF_lobj {vs : List Value} {n k : Nat} {y : Value} (hk : k ≤ vs.length) : Obj.mapSeq (insF (k : Nat) y) (lobj vs n) = lobj (vs.take k ++ y :: vs.drop k) (n + 1) := ins_lobj hk
theorem news_swap {h₀ h : Heap} {L : Addr} {a b : Addr × Obj} {r : List (Addr × Obj)} (N : News h₀ L h (a :: b :: r)) : News h₀ L h (b :: a :: r) := fun p hp => N p (by
  simp only [List.mem_cons] at hp ⊢
  rcases hp with h | h | h
  · exact .inr (.inl h)
  · exact .inl h
  · exact .inr (.inr h))
end Mine
end
section
open PySem PySem.W PyProof.Rows PySem.Calls PySem.Spec
set_option maxRecDepth 100000
set_option maxHeartbeats 4000000
namespace Mine
/-- what the comprehension's own objects (its names, its cells) hold -/
structure Own (own : List Addr) (St : Heap → Prop) : Prop where
  alive : ∀ h, St h → ∀ b ∈ own, ∃ o, h.get? b = some o
  frame : ∀ h h', St h → (∀ b ∈ own, ∀ o, h.get? b = some o → h'.get? b = some o) → St h'
section
variable {prog : Program} {w : World} {A : Around} {E : Value → Shared → Prop} {R : Result → Shared → Prop} {s s₁ : Shared}
def EltG (h : Heap) (own : List Addr) (St : Heap → Prop) (h₁ : Heap) (F : Value → Heap → Prop) (s₁ : Shared) (y : Value) (s' : Shared) : Prop :=
  ∃ h' tk', s' = { s₁ with heap := h', toks := tk' } ∧ (∀ b o, b ∉ own → h.get? b = some o → h'.get? b = some o) ∧ St h' ∧
    ∀ h'', (∀ b o, h.get? b = none → h'.get? b = some o → h''.get? b = some o) → Keep h₁ h'' → F y h''
theorem comp_loopG {elt target iter : Expr} {scope : Scope} {pos : Pos} {I ax D : Addr} {cenv : Env} {items : Array Value} {own : List Addr} {St : Heap → Prop} {h₁ : Heap} (O : Own own St) (F : Nat → Value → Heap → Prop)
    (hh : A.handled = none) (hax : ax ≠ I) (hDI : D ≠ I) (hDC : D ∉ own) (hIC : I ∉ own) (haC : ax ∉ own) (haD : ax ≠ D)
    (h1I : h₁.get? I = none) (h1D : h₁.get? D = none) (h1C : ∀ b ∈ own, h₁.get? b = none) (hk₁ : Keep h₁ s.heap)
    (hit : s.heap.IsListIter I ax 0) (hl : s.heap.IsList ax items) (hacc : s.heap.PlainList D #[]) (hn : St s.heap)
    (hlet : ∀ i v s' (Q : Unit → Shared → Prop) E', items[i]? = some v → s'.heap.IsListIter I ax (i + 1) → Q () s' → wpAny (model prog w) A (letOwnedTupleGo target (.ref I) v) Q E' s')
    (helt : ∀ i v h tk E', items[i]? = some v → St h → Keep h₁ h →
      wpAny (model prog w) A (assign target cenv v) (fun _ s₄ => wpAny (model prog w) A (eval elt cenv) (EltG h own St h₁ (F i) s) E' s₄) E' { s with heap := h, toks := tk })
    (hR : ∀ h' tk ys, St h' → h'.PlainList D (List.toArray ys) → ys.length = items.size →
      (∀ h'', (∀ b o, h₁.get? b = none → b ∉ own → b ≠ I → b ≠ D → h'.get? b = some o → h''.get? b = some o) → Keep h₁ h'' → ∀ i y, ys[i]? = some y → F i y h'') →
      Keep h₁ h' → R (.ok .next) { s with heap := h', toks := tk })
    (hsz : items.size ≤ sizeLine := by size_fits) :
    codeAny (model prog w) A (.compLoop (.ListComp elt [⟨target, iter, [], 0⟩] scope pos) 0 (.ref I) (.ref D) cenv) R s := by
  have n1 : ∀ {b c o}, h₁.get? c = none → h₁.get? b = some o → b ≠ c := fun hc e q => by rw [q, hc] at e; cases e
  have nO : ∀ {b o}, h₁.get? b = some o → b ∉ own := fun e q => by rw [h1C _ q] at e; cases e
  refine kcp_loop
    (fun k s' => ∃ h' tk ys i, s' = { s with heap := h', toks := tk } ∧ h'.IsListIter I ax i ∧ h'.IsList ax items ∧ h'.PlainList D (List.toArray ys) ∧ St h' ∧
      ys.length = i ∧ i ≤ items.size ∧ k = items.size + 1 - i ∧ Keep h₁ h' ∧
      (∀ h'', (∀ b o, h₁.get? b = none → b ∉ own → b ≠ I → b ≠ D → h'.get? b = some o → h''.get? b = some o) → Keep h₁ h'' → ∀ i y, ys[i]? = some y → F i y h'')) ?_ (items.size + 1)
    ⟨s.heap, s.toks, [], 0, rfl, hit, hl, hacc, hn, rfl, Nat.zero_le _, rfl, hk₁, fun _ _ _ i y e => by simp at e⟩
  rintro k s' ⟨H, tk, ys, i, rfl, hit', hl', hacc', hn', hlen, hi, rfl, hk, hF⟩
  cases hv : items[i]? with
  | none =>
    have hsz : items.size ≤ i := by simpa using hv
    refine wpAny_pyNext_list_end hh hit' hl' hv fun h₂ he₂ => ?_
    exact hR h₂ tk ys (O.frame _ _ hn' fun b hb o e => he₂ b o (fun q => hIC (q ▸ hb)) e) (hacc'.at fun o e => he₂ _ o hDI e) (by omega)
      (fun h'' k1 k2 => hF h'' (fun b o e1 hc hI hD e => k1 b o e1 hc hI hD (he₂ b o hI e)) k2) fun b o e => he₂ b o (n1 h1I e) (hk b o e)
  | some v =>
    have hlt : i < items.size := (Array.getElem?_eq_some_iff.mp hv).1
    refine wpAny_pyNext_list_item hit' hl' hv fun h₂ hit₂ hs₂ => ?_
    refine hlet i v _ _ _ hv hit₂ ?_
    have hn₂ : St h₂ := O.frame _ _ hn' fun b hb o e => hs₂.extBut b o (fun q => hIC (q ▸ hb)) e
    have hk₂ : Keep h₁ h₂ := fun b o e => hs₂.extBut b o (n1 h1I e) (hk b o e)
    refine wpAny_mono (helt i v h₂ tk _ hv hn₂ hk₂) (fun _ s₄ h₄ => wpAny_mono h₄ (fun y s₅ h₅ => ?_) fun _ _ e => e) fun _ _ e => e
    obtain ⟨h₅, tk₅, rfl, hk₅, hn₅, hF₅⟩ := h₅
    have hacc₅ : h₅.PlainList D (List.toArray ys) := hacc'.at fun o e => hk₅ _ o hDC (hs₂.extBut _ o hDI e)
    refine wpAny_list_append_plain (hsz := by simp; omega) hacc₅ fun h₆ hl₆ hs₆ => ?_
    have hk₆ : Keep h₁ h₆ := fun b o e => hs₆.extBut b o (n1 h1D e) (hk₅ b o (nO e) (hk₂ b o e))
    refine ⟨items.size + 1 - (i + 1), by omega, h₆, tk₅, ys ++ [y], i + 1, rfl, ?_, ?_, ?_, O.frame _ _ hn₅ (fun b hb o e => hs₆.extBut b o (fun q => hDC (q ▸ hb)) e), by simp [hlen], hlt, rfl, hk₆, ?_⟩
    · exact hit₂.at fun o e => hs₆.extBut _ o (Ne.symm hDI) (hk₅ _ o hIC e)
    · exact hl'.at fun o e => hs₆.extBut _ o haD (hk₅ _ o haC (hs₂.extBut _ o hax e))
    · simpa using hl₆
    · intro h'' k1 k2 j z hz
      by_cases hj : j < i
      · rw [List.getElem?_append_left (by omega)] at hz
        exact hF h'' (fun b o e1 hc hI hD e => k1 b o e1 hc hI hD (hs₆.extBut b o hD (hk₅ b o hc (hs₂.extBut b o hI e)))) k2 j z hz
      · have hj' : j = i := by
          have := (List.getElem?_eq_some_iff.mp hz).1
          simp at this; omega
        subst hj'
        rw [List.getElem?_append_right (by omega), hlen, Nat.sub_self] at hz
        obtain rfl : y = z := by simpa using hz
        refine hF₅ h'' (fun b o e0 e => ?_) k2
        have hbC : b ∉ own := fun q => by
          obtain ⟨_, ho⟩ := O.alive _ hn₂ b q; rw [ho] at e0; cases e0
        have hbI : b ≠ I := fun q => by
          obtain ⟨_, ho, _⟩ := hit₂; rw [q, ho] at e0; cases e0
        have hbD : b ≠ D := fun q => by
          obtain ⟨_, ho⟩ := hacc'; rw [q, hs₂.extBut _ _ hDI ho] at e0; cases e0
        refine k1 b o ?_ hbC hbI hbD (hs₆.extBut b o hbD e)
        cases q : h₁.get? b with
        | none => rfl
        | some o' => rw [hk₂ b o' q] at e0; cases e0
/-- the comprehension's own block where its one name is a cell -/
theorem comp_evalK {env : Env} {elt iter : Expr} {x : Str} {px : Pos} {scope : Scope} {cl : List (Str × Addr)} {pos : Pos} {Q : Value → Shared → Prop}
    (hh : A.handled = none)
    (h : wpAny (model prog w) A (eval iter env) (fun xv s₁ => ∃ (ax : Addr) (items : Array Value) (F : Nat → Value → Heap → Prop), xv = .ref ax ∧ s₁.heap.IsList ax items ∧ items.size ≤ sizeLine ∧
      (∀ C c i v h tk E', items[i]? = some v → h.IsCell c (some v) → Keep s₁.heap h →
        wpAny (model prog w) A (eval elt (compEnvC scope ((x, c) :: cl) C env)) (fun y s₅ => ∃ h' tk', s₅ = { s₁ with heap := h', toks := tk' } ∧ Keep h h' ∧
          ∀ h'', (∀ b o, h.get? b = none → h'.get? b = some o → h''.get? b = some o) → Keep s₁.heap h'' → F i y h'') E' { s₁ with heap := h, toks := tk }) ∧
      (∀ D h' tk ys n, s₁.heap.get? D = none → h'.get? D = some (lobj ys n) → ys.length = items.size → (∀ i y, ys[i]? = some y → F i y h') → Keep s₁.heap h' → Q (.ref D) { s₁ with heap := h', toks := tk })) E s)
    (hx : ∀ n, cellsFrom n scope.names cl = (x, n) :: cl) (hpc : ∀ h, pushCells h scope.names = h.push { cls := .type "cell", data := .cell none })
    (hkx : (relabel scope env).names.lookup x = some .cell)
    (hclos : closureFor scope env = pure cl := by rfl) (hkind : scope.kind = .function := by rfl)
    (hnames : ∀ y ∈ scope.names, y.2 = .local → scope.names.lookup y.1 = some .local := by decide)
    (hs : ∀ x, foldedSetIterable iter env x = pure x := by intro _; rfl) :
    wpAny (model prog w) A (eval (.ListComp elt [⟨.Name x px, iter, [], 0⟩] scope pos) env) Q E s := by
  rw [eval_ListComp]
  refine wpAny_comprehension_free (use := none) rfl hs hclos hkind hnames (wpAny_mono h (fun xv s₁ h₁ => ?_) fun _ _ e => e)
  obtain ⟨ax, items, F, rfl, hl, hsz, helt, hQ⟩ := h₁
  obtain ⟨ol, hol, hol'⟩ := id hl
  have hax : ax < s₁.heap.objs.size := Heap.lt_size hol
  refine wpAny_pyIter_list hl (wpAny_newObj_type (hd := by size_fits) ?_)
  simp only [newFunctionEnv, Option.isSome_some, if_true]
  refine wpAny_bind (wpAny_alloc ?_)
  refine wpAny_bind (wpAny_layCells _ (fun name kind cells => by cases hkc : kind == NameKind.cell <;> simp [hkc]) _ _ _ _ ?_)
  dsimp only
  generalize hH1 : s₁.heap.push { cls := .type "list_iterator", data := .fields #[.ref ax, .int 0 0] } = H1
  have hD : H1.objs.size = s₁.heap.objs.size + 1 := by rw [← hH1, Heap.size_push]
  generalize hH2 : H1.push { cls := .type "list", dict := none, data := .seq ([] : List Value).toArray } = H2
  have hC : H2.objs.size = s₁.heap.objs.size + 2 := by rw [← hH2, Heap.size_push, hD]
  generalize hH3 : H2.push { cls := .type "dict", dict := none, data := .dict #[] } = H3
  have hc : H3.objs.size = s₁.heap.objs.size + 3 := by rw [← hH3, Heap.size_push, hC]
  rw [hx, hpc]
  generalize hH4 : H3.push { cls := .type "cell", dict := none, data := .cell none } = H4
  refine wpAny_bind (wpAny_pure (wpAny_pure ?_))
  dsimp only
  have lt1 : s₁.heap.objs.size < s₁.heap.objs.size + 1 := Nat.lt_succ_self _
  have hDI : H1.objs.size ≠ s₁.heap.objs.size := by rw [hD]; exact Nat.succ_ne_self _
  have k4 : Keep s₁.heap H4 := fun b o e => hH4 ▸ Heap.get?_push_of_some _ (hH3 ▸ Heap.get?_push_of_some _ (hH2 ▸ Heap.get?_push_of_some _ (hH1 ▸ Heap.get?_push_of_some _ e)))
  have hit : H4.IsListIter s₁.heap.objs.size ax 0 := ⟨_, hH4 ▸ Heap.get?_push_of_some _ (hH3 ▸ Heap.get?_push_of_some _ (hH2 ▸ Heap.get?_push_of_some _ (hH1 ▸ Heap.get?_push_size _ rfl))), rfl, rfl⟩
  have hacc : H4.PlainList H1.objs.size #[] := ⟨_, hH4 ▸ Heap.get?_push_of_some _ (hH3 ▸ Heap.get?_push_of_some _ (hH2 ▸ Heap.get?_push_size _ rfl))⟩
  have hns : H4.Ns H2.objs.size fun _ => none := (Heap.Ns.new H2 (.type "dict")).keeps fun b o e => hH4 ▸ Heap.get?_push_of_some _ (hH3 ▸ e)
  have hcell : H4.IsCell H3.objs.size none := ⟨_, hH4 ▸ Heap.get?_push_size _ rfl, rfl⟩
  have nn : ∀ {a : Nat}, s₁.heap.objs.size ≤ a → s₁.heap.get? a = none := fun h => none_of_ge h
  have hCc : H3.objs.size ≠ H2.objs.size := by rw [hc, hC]; exact Nat.succ_ne_self _
  have O : Own [H2.objs.size, H3.objs.size] (fun h => (∃ m, h.Ns H2.objs.size m) ∧ ∃ v, h.IsCell H3.objs.size v) := by
    refine ⟨fun h st b hb => ?_, fun h h' st hk => ?_⟩
    · obtain ⟨⟨m, o, _, _, ho, _⟩, v, o', ho', _⟩ := st
      rcases List.mem_cons.mp hb with e | hb
      · exact ⟨o, e ▸ ho⟩
      · exact ⟨o', (List.mem_singleton.mp hb) ▸ ho'⟩
    · obtain ⟨⟨m, hm⟩, v, o', ho', hd⟩ := st
      exact ⟨⟨m, hm.at' fun o e => hk _ (.head _) o e⟩, v, o', hk _ (.tail _ (.head _)) _ ho', hd⟩
  have out : ∀ {b : Nat}, b < s₁.heap.objs.size + 2 → b ∉ [H2.objs.size, H3.objs.size] := fun {b} hb q => by
    rw [hC, hc] at q
    rcases List.mem_cons.mp q with e | q
    · exact absurd e (Nat.ne_of_lt hb)
    · exact absurd (List.mem_singleton.mp q) (Nat.ne_of_lt (Nat.lt_succ_of_lt hb))
  have loop : ∀ s₂ : Shared, s₂ = { s₁ with heap := H4 } →
      codeAny (model prog w) A (.compLoop (.ListComp elt [⟨.Name x px, iter, [], 0⟩] scope pos) 0 (.ref s₁.heap.objs.size) (.ref H1.objs.size) (compEnvC scope ((x, H3.objs.size) :: cl) H2.objs.size env))
        (compPost (model prog w) A E none Q (.ref H1.objs.size) H2.objs.size) s₂ := by
    rintro s₂ rfl
    refine comp_loopG (cenv := compEnvC scope ((x, H3.objs.size) :: cl) H2.objs.size env) (h₁ := s₁.heap) O F hh (Nat.ne_of_lt hax) hDI (out (by rw [hD]; exact Nat.lt_succ_self _)) (out (Nat.lt_succ_of_lt lt1)) (out (Nat.lt_succ_of_lt (Nat.lt_succ_of_lt hax))) (by rw [hD]; exact Nat.ne_of_lt (Nat.lt_succ_of_lt hax))
      (nn (Nat.le_refl _)) (nn (by rw [hD]; exact Nat.le_succ _)) (fun b hb => ?_) k4 hit (hl.at fun o e => k4 _ o e) hacc ⟨⟨_, hns⟩, _, hcell⟩ (fun i v s' Q E' _ _ hQ => wpAny_pure hQ) ?_ ?_ hsz
    · rw [hC, hc] at hb
      rcases List.mem_cons.mp hb with e | hb
      · exact nn (by rw [e]; exact Nat.le_add_right _ 2)
      · exact nn (by rw [List.mem_singleton.mp hb]; exact Nat.le_add_right _ 3)
    · rintro i v h tk E' hv ⟨⟨m, hm⟩, v₀, hv₀⟩ hk
      refine wpAny_assign_Name (wpAny_storeName_cell (c := H3.objs.size) hkind hkx (by simp [compEnvC]) hv₀ fun h₂ hc₂ hs₂ => ?_)
      have hk₂ : Keep s₁.heap h₂ := fun b o e => hs₂.extBut b o (fun q => by
        have := Heap.lt_size e
        rw [q, hc] at this
        exact absurd this (Nat.not_lt.mpr (Nat.le_add_right _ 3))) (hk b o e)
      refine wpAny_mono (helt H2.objs.size H3.objs.size i v h₂ tk _ hv hc₂ hk₂) (fun y s₅ h₅ => ?_) fun _ _ e => e
      obtain ⟨h', tk', rfl, hk', hF⟩ := h₅
      refine ⟨h', tk', rfl, fun b o hb e => hk' b o (hs₂.extBut b o (fun q => hb (q ▸ .tail _ (.head _))) e), ⟨⟨m, (hm.sameBut hs₂ (Ne.symm hCc)).keeps hk'⟩, _, hc₂.keeps hk'⟩, fun h'' k1 k2 => hF h'' (fun b o e0 e => k1 b o ?_ e) k2⟩
      cases q : h.get? b with
      | none => rfl
      | some o' =>
        by_cases hb : b = H3.objs.size
        · obtain ⟨_, ho, _⟩ := hc₂
          rw [hb, ho] at e0; cases e0
        · rw [hs₂.extBut b o' hb q] at e0; cases e0
    · rintro h' tk ys ⟨⟨m, hm⟩, _⟩ ⟨n, hpl⟩ hlen hF hk
      refine ⟨m, hm, fun h'' hs'' => ?_⟩
      have hnC : ∀ {b o}, s₁.heap.get? b = some o → b ≠ H2.objs.size := fun {b o} e q => by
        have := Heap.lt_size e
        rw [q, hC] at this
        exact absurd this (Nat.not_lt.mpr (Nat.le_add_right _ 2))
      have hk'' : Keep s₁.heap h'' := fun b o e => hs''.extBut b o (hnC e) (hk b o e)
      exact hQ H1.objs.size h'' tk ys n (nn (by rw [hD]; exact Nat.le_succ _)) (hs''.extBut _ _ (by rw [hD, hC]; exact Nat.ne_of_lt (Nat.lt_succ_self _)) hpl) hlen
        (hF h'' (fun b o _ hc' _ _ e => hs''.extBut b o (fun q => hc' (q ▸ .head _)) e) hk'') hk''
  exact codeAny_compStart_list (loop _ rfl) (wpAny_pyIter_listiter hit (loop _ rfl))
end
end Mine
end
section
open PySem PySem.W PyProof.Rows PySem.Calls PySem.Spec PySem.NumText
set_option maxRecDepth 100000
set_option maxHeartbeats 4000000
namespace Mine
local macro_rules | `(tactic| walk_at "lk") => `(tactic| (repeat (first | exact up_eq | assumption | refine up_of ?_ (by decide))))
theorem ints_of {ys : List Value} : ∀ {zs : List Int}, ys.length = zs.length → (∀ (i : Nat) (y : Value), ys[i]? = some y → ∃ (z : Int) (t : Tok), zs[i]? = some z ∧ y = Value.int z t) → IntsAre ys zs := by
  induction ys with
  | nil => intro qs hl _; cases qs with
    | nil => exact .nil
    | cons => simp at hl
  | cons v r ih => intro qs hl h; cases qs with
    | nil => simp at hl
    | cons q qs =>
      obtain ⟨q', t, e, rfl⟩ := h 0 v rfl
      obtain rfl : q = q' := by simpa using e
      exact .cons _ _ (ih (by simpa using hl) fun i v e => by simpa using h (i + 1) v (by simpa using e))
def pos0 (x : Int) : Int := if 0 > x then 0 else x
def toldAt (ns : List Int) (i k : Int) : Int := i * k + (ns.map fun n => pos0 (n - k)).sum
def IsMinT (ns : List Int) (i M : Int) : Prop := (∃ k ∈ ns, M = toldAt ns i k) ∧ ∀ k ∈ ns, M ≤ toldAt ns i k
section
variable {prog : Program} {w : World} {A : Around} {E : Value → Shared → Prop} {s : Shared} {env : Env} {mg mb : Str → Option Value}
theorem ldCell {x : Str} {pos : Pos} {c : Addr} {v : Value} {Q : Value → Shared → Prop} (hv : s.heap.IsCell c (some v)) (h : Q v s) (hc : env.cells.lookup x = some c := by rfl)
    (hk : env.scope.kind = .function := by rfl) (hl : env.kindOf x = some .cell := by rfl) (hd : (x == ("__debug__" : Str)) = false := by decide) :
    wpAny (model prog w) A (eval (.Name x pos) env) Q E s := wpAny_Name (wpAny_loadName_cell hk hl hc hv h) hd
theorem min_L {l : Addr} {vs : List Value} {ns : List Int} {Q : Value → Shared → Prop} (hh : A.handled = none) (hl : s.heap.IsList l vs.toArray) (hi : IntsAre vs ns) (hne : 0 < ns.length)
    (h : ∀ h' M (t : Tok) tk, Keep s.heap h' → M ∈ ns → (∀ a, a ∈ ns → M ≤ a) → Q (.int M t) { s with heap := h', toks := tk }) :
    wpAny (model prog w) A (call (.builtin "min") [.ref l]) Q E s := by
  obtain ⟨xs, e⟩ := hi.allInts.items
  have hns : ns = xs.toList.map (·.1) := by
    rw [← hi.numsOf, ← nums_intItems, ← e]
  have hsz : 0 < xs.size := by
    have h3 := hne; rw [hns, List.length_map, Array.length_toList] at h3; exact h3
  rw [e] at hl
  refine min_intList hh hl hsz fun v h' tk hv hk => ?_
  obtain ⟨t, rfl⟩ := intItems_at hv
  obtain ⟨h1, h2⟩ := argBest_lt (numAt xs) (xs.size - 1)
  refine h _ _ t tk hk ?_ fun a ha => ?_
  · rw [hns, numAt_eq]; exact getD_mem (by rw [List.length_map, Array.length_toList]; omega)
  · rw [hns] at ha
    obtain ⟨j, hj, rfl⟩ := mem_getD ha
    rw [List.length_map, Array.length_toList] at hj
    rw [← numAt_eq]; exact h2 j (by omega)
theorem sum_L {l : Addr} {vs : List Value} {ns : List Int} {Q : Value → Shared → Prop} (hh : A.handled = none) (hl : s.heap.IsList l vs.toArray) (hi : IntsAre vs ns)
    (h : ∀ h' tk t', Keep s.heap h' → Q (.int ns.sum t') { s with heap := h', toks := tk }) : wpAny (model prog w) A (call (.builtin "sum") [.ref l]) Q E s := by
  obtain ⟨xs, hx⟩ := hi.allInts.items
  have hl' : s.heap.IsList l (intItems xs) := hx ▸ hl
  refine sum_intListG hh hl' fun h' tk t' hk => ?_
  have e1 : ns = xs.toList.map (·.1) := by
    rw [← nums_intItems, ← hx]
    exact (show numsOf vs.toArray.toList = ns from hi.numsOf).symm
  have e2 : preSum (numAt xs) xs.size = ns.sum := by
    rw [preSum_eq, List.take_of_length_le (by simp), e1]
  rw [e2]
  exact h h' tk t' hk
/-- store under a local name, any env -/
theorem stE {h₀ : Heap} {m : Str → Option Value} {news : List (Addr × Obj)} {x : Str} {v : Value} {Q : Unit → Shared → Prop} (F : Fr h₀ env.locals s.heap m) (N : News h₀ env.locals s.heap news)
    (h : ∀ h', Fr h₀ env.locals h' (up m x v) → News h₀ env.locals h' news → Heap.SameBut env.locals s.heap h' → Q () { s with heap := h', toks := s.toks + 1 })
    (hl : env.kindOf x = some .local := by rfl) (hp : (env.scope.kind == .class || (env.scope.kind == .module && env.locals != env.globals)) = false := by rfl) :
    wpAny (model prog w) A (storeName env x v) Q E s :=
  wpAny_storeName_local hl F.ns (fun h' hn hs => h h' (F.set hn hs) (N.set hs) hs) hp
end
theorem IntsAre.item {vs : List Value} {ns : List Int} (h : IntsAre vs ns) {i : Nat} {v : Value} (e : vs[i]? = some v) : ∃ n t, v = .int n t ∧ ns[i]? = some n := h.at i v e
end Mine
end
section
open PySem PySem.W PyProof.Rows PySem.Calls PySem.Spec
set_option maxRecDepth 100000
set_option maxHeartbeats 4000000
namespace Mine
section
variable {M : Model} {A : Around} {E : Value → Shared → Prop} {s : Shared}
/-- the frame that raised notes a new exception -/
theorem looks_madeW {base h : Heap} {env : Env} {outer : List Env} {L e : Addr} {cls : Value} {args : List Value} {Q : Unit → Shared → Prop}
    (hfr : A.frames = some (env :: outer)) (hf : env.frame = some L) (hkb : base.StaysIn h) (hl : h.FunFrames base (env :: outer)) (hx : Heap.MadeExcOf h s.heap e cls args)
    (hQ : ∀ h' t, Heap.HeldW base (env :: outer) e cls (.ref t) L h' → h'.TupAt t args → s.heap.UpToSlots h' → Q () { s with heap := h' }) : wpAny M A (noteFrame (.ref e) env) Q E s := by
  obtain ⟨t, he, htn, ht⟩ := hx.there
  have fresh : ∀ b, h.get? b = none → base.get? b = none := fun b hb => by
    cases hq : base.get? b with
    | none => rfl
    | some o' => have := hkb b o' hq; rw [hb] at this; cases this
  unfold noteFrame
  simp only [hf]
  refine wpAny_bind (wpAny_field (x := .none) he rfl rfl ?_)
  rw [if_neg (by decide)]
  refine wpAny_entryW (a0 := .ref t) hfr (hl.of_keeps fun b o hb _ => ⟨o, hx.keeps b o hb, rfl⟩) hf he (fun b o hb => hx.keeps b o (hkb b o hb)) (fresh e hx.new) rfl (by simp) rfl fun h' hN => ?_
  obtain ⟨k1, k2, k3, k4⟩ := hN
  exact hQ h' t ⟨k1, fresh e hx.new, k2, k3⟩ (Heap.TupAt.of_slots ⟨_, _, ht, rfl, rfl⟩ k4) k4
theorem setFlight_someW {base : Heap} {l : List Env} {e L : Addr} {cls a0 : Value} {Q : Unit → Shared → Prop} (hh : Heap.HeldW base l e cls a0 L s.heap)
    (hQ : ∀ h', Heap.HeldW base l e cls a0 L h' → s.heap.UpToSlots h' → Q () { s with heap := h' }) : wpAny M A (setFlight (.ref e) (some L)) Q E s := by
  obtain ⟨hkb, hen, hl, oe, vs, T, oT, ts, he, hcls, hd, h1, hnT, hTe, hT, hdT, h3⟩ := hh
  have hsz3 : 3 < ts.size := (Array.getElem?_eq_some_iff.mp h3).1
  have other : ∀ b, b ≠ T → (s.heap.update T (Obj.mapFields (·.setIfInBounds 3 ((some L : Option Addr).elim Value.none fun f => rawInt f)))).get? b = s.heap.get? b :=
    fun b hb => Heap.get?_update_other _ _ (Ne.symm hb)
  have noRecord : ∀ b o, s.heap.get? b = some o → (∀ vs, o.data ≠ .fields vs) → b ≠ T := fun b o hb hnf q => by
    rw [q, hT] at hb; injection hb with hb; subst hb; exact hnf ts hdT
  unfold setFlight
  refine wpAny_bind (wpAny_field he hd h1 ?_)
  rw [if_pos (show (Value.ref T != Value.none) = true from by simp)]
  refine wpAny_setField hT hdT hsz3 (hQ _ ⟨fun b o hbo => (other b fun q => by rw [q, hnT] at hbo; cases hbo).trans (hkb b o hbo), hen,
    hl.of_keeps fun b o hb hnf => ⟨o, (other b (noRecord b o hb hnf)).trans hb, rfl⟩, ?_⟩ fun b o hb hnf => ⟨o.slots, (other b (noRecord b o hb hnf)).trans hb⟩)
  exact ⟨oe, vs, T, _, _, (other e (Ne.symm hTe)).trans he, hcls, hd, h1, hnT, hTe, Heap.get?_update_self _ hT (Obj.isFreed_of_fields (Obj.data_mapFields hdT _)), Obj.data_mapFields hdT _, by simp [hsz3]⟩
/-- back in the own frame -/
theorem backW {base : Heap} {l : List Env} {e L : Addr} {cls a0 : Value} {env : Env} {Q : Unit → Shared → Prop} (hf : env.frame = some L) (hh : Heap.HeldW base l e cls a0 L s.heap)
    (hQ : ∀ h', Heap.HeldW base l e cls a0 L h' → s.heap.UpToSlots h' → Q () { s with heap := h' }) :
    wpAny M A (do
      if (← field (.ref e) 1) == .none then unsupported "frame.own-activation:exception-without-traceback"
      setFlight (.ref e) env.frame) Q E s := by
  obtain ⟨hkb, hen, hl, oe, vs, T, oT, ts, he, hcls, hd, h1, r⟩ := id hh
  refine wpAny_bind (wpAny_field he hd h1 ?_)
  rw [if_neg (show ¬ (Value.ref T == Value.none) = true from by simp)]
  rw [hf]
  exact setFlight_someW hh hQ
end
end Mine
end
section
open PySem PySem.W PyProof.Rows PySem.Calls PySem.Spec
set_option maxRecDepth 100000
set_option maxHeartbeats 4000000
namespace Mine
local macro_rules | `(tactic| walk_at "lk") => `(tactic| (repeat (first | exact up_eq | assumption | refine up_of ?_ (by decide))))
theorem funFrames_step {h h' base : Heap} {l : List Env} (k : ∀ b o, h.get? b = some o → (∀ vs, o.data ≠ .fields vs) → ∃ o', h'.get? b = some o' ∧ ∀ vs, o'.data ≠ .fields vs) (hl : h.FunFrames base l) : h'.FunFrames base l := by
  induction l with
  | nil => trivial
  | cons env rest ih =>
    obtain ⟨hk, ⟨L, o, hf, hn, ho, hd⟩, hr⟩ := hl
    obtain ⟨o', ho', hd'⟩ := k L o ho hd
    exact ⟨hk, ⟨L, o', hf, hn, ho', hd'⟩, ih hr⟩
theorem boot_VE : bootBuiltins "ValueError" = some (.type "ValueError") := by decide +kernel
theorem leaves_heldW' {M : Model} {A : Around} {E : Value → Shared → Prop} {s : Shared} {base : Heap} {env : Env} {outer : List Env} {L e : Addr} {cls a0 : Value} {Q : Unit → Shared → Prop} (hf : env.frame = some L)
    (hh : Heap.HeldW base (env :: outer) e cls a0 L s.heap) (hQ : ∀ h', Heap.FlyingW base outer e cls a0 h' → s.heap.UpToSlots h' → Q () { s with heap := h' }) : wpAny M A (leaving env (.ref e)) Q E s := by
  unfold leaving
  refine wpAny_bind (wpAny_noteFrame_againW hf hh.2.2.2 ?_)
  refine wpAny_landsW hh fun h' hfl ups => ?_
  obtain ⟨k1, k2, ⟨_, _, k3⟩, k4⟩ := hfl
  exact hQ h' ⟨k1, k2, k3, k4⟩ ups
/-- the walk's first step raises -/
def RE (base : Heap) (outer : List Env) (L : Addr) : GenEnd := fun _ s₀ r s₁ => ∃ e t tt h' tk, r = .error (.ref e) ∧ s₁ = { s₀ with heap := h', toks := tk } ∧ Heap.FlyingW base outer e (.type "ValueError") (.ref t) h' ∧ h'.TupAt t [.str "invalid grouping" tt] ∧
  ∀ b o, b ≠ L → s₀.heap.get? b = some o → (∀ vs, o.data ≠ .fields vs) → ∃ sl, h'.get? b = some { o with slots := sl }
section
variable {prog : Program} {w : World} {A : Around} {E : Value → Shared → Prop} {s : Shared} {mg mb : Str → Option Value}
theorem goes_raise {base hB : Heap} {outer : List Env} {L l : Addr} {cd : Value} {n : Nat} {Y : Protocol} {vs : List Value} {ns : List Int} {m : Str → Option Value} (W : Wd mg mb hB) (hLB : hB.get? L = none) (hh : A.handled = none) (hl : hB.IsList l vs.toArray) (hi : IntsAre vs ns)
    (h0 : ns[0]? = some 0) (hk : Keep hB s.heap) (hm : s.heap.Ns L m) (hg : m "grouping" = some (.ref l)) (hfr : A.frames = some outer) (hbase : base.StaysIn hB) (hfun : s.heap.FunFrames base outer) :
    (GenState.fresh (.func (bdyP 4) (genv L cd))).Goes (model prog w) A (RE base outer L) Y n (.send .none) s := by
  refine ⟨rfl, ?_⟩
  have hLb : base.get? L = none := by
    cases q : base.get? L with
    | none => rfl
    | some o => rw [hbase _ _ q] at hLB; cases hLB
  have hIB : hB.get? s.heap.objs.size = none := by
    cases q : hB.get? s.heap.objs.size with
    | none => rfl
    | some o => exact absurd (Heap.lt_size (hk _ _ q)) (Nat.lt_irrefl _)
  refine seg_func (seg_execs_cons (seg_wrap (wpAny_Assign_Name (wpAny_Constant_none (wpAny_storeName_local (env := genv L cd) rfl hm (fun h₂ hn₂ hs₂ => ?_) rfl)))))
  have hn₂ : h₂.Ns L (up m "last_interval" .none) := hn₂
  have kB₂ : Keep hB h₂ := fun b o e => hs₂.extBut b o (ne_none hLB e) (hk b o e)
  have hsz : h₂.objs.size = s.heap.objs.size := hs₂.1
  refine seg_execs_cons (seg_For (ldE hn₂ (up_of hg) (wpAny_pyIter_list (hl.at fun o e => kB₂ l o e) fun p => ?_)))
  dsimp only
  rw [hsz]
  have hLI : L ≠ s.heap.objs.size := Nat.ne_of_lt hm.lt
  generalize hI : s.heap.objs.size = I at *
  have it₃ : (h₂.push { cls := .type "list_iterator", data := .fields #[.ref l, .int 0 0] }).IsListIter I l 0 := ⟨_, by rw [← hsz]; exact Heap.get?_push_size _ rfl, rfl, rfl⟩
  have kp₃ : Keep h₂ (h₂.push { cls := .type "list_iterator", data := .fields #[.ref l, .int 0 0] }) := Keep.push _ _
  generalize h₂.push { cls := .type "list_iterator", data := .fields #[.ref l, .int 0 0] } = h₃ at it₃ kp₃ ⊢
  have kB₃ : Keep hB h₃ := Keep.trans kB₂ kp₃
  have hA : (A.over (.forLoop gTgt (.ref I) gFor [] (genv L cd)) [gFrame (genv L cd) p]).handled = none := by
    show (marksOver [gFrame (genv L cd) p] (A.handled, A.handled)).1 = none
    rw [hh]; rfl
  have hAf : (A.over (.forLoop gTgt (.ref I) gFor [] (genv L cd)) [gFrame (genv L cd) p]).frames = some (genv L cd :: outer) := by
    unfold Around.over
    dsimp only
    rw [hfr]
    rfl
  refine seg_forLoop (fun _ => rfl) ?_
  obtain ⟨t0, hv0⟩ := hi.get 0 0 h0
  refine wpAny_pyNext_list_item it₃ (hl.at fun o e => kB₃ l o e) (x := .int 0 t0) (by simpa using hv0) fun h₄ it₄ hs₄ => ?_
  have hn₄ : h₄.Ns L (up m "last_interval" .none) := (hn₂.keeps kp₃).at' fun o e => hs₄.extBut L o hLI e
  refine wpAny_assign_Name (wpAny_storeName_local (env := genv L cd) rfl hn₄ (fun h₅ hn₅ hs₅ => ?_) rfl)
  have hn₅ : h₅.Ns L (up (up m "last_interval" .none) "interval" (.int 0 t0)) := hn₅
  have kB₅ : Keep hB h₅ := fun b o e => hs₅.extBut b o (ne_none hLB e) (hs₄.extBut b o (ne_none hIB e) (kB₃ b o e))
  have W₅ := W.keeps kB₅
  have step : ∀ b o, b ≠ L → s.heap.get? b = some o → h₅.get? b = some o := fun b o hb e =>
    hs₅.extBut b o hb (hs₄.extBut b o (fun q => absurd (Heap.lt_size e) (by rw [q, ← hI]; exact Nat.lt_irrefl _)) (kp₃ _ _ (hs₂.extBut b o hb e)))
  have fun₅ : h₅.FunFrames base outer := funFrames_step (fun b o e hd => by
    by_cases hb : b = L
    · obtain ⟨o', _, _, ho', hd', _⟩ := hn₅
      exact ⟨o', hb ▸ ho', fun vs q => by rw [hd'] at q; cases q⟩
    · exact ⟨o, step b o hb e, hd⟩) hfun
  have funG : h₅.FunFrames base (genv L cd :: outer) := .cons (by show (scpP 4).kind ≠ .module; decide) rfl hn₅ hLb fun₅
  obtain ⟨tc, hch⟩ := W.char
  refine seg_execs_cons (seg_If (wpAny_isTrue_Compare1 (ldE hn₅ up_eq (ldG W₅ hch (eq_int (wpAny_truthy_bool ?_))))))
  rw [if_neg (by decide)]
  refine seg_execs_nil (seg_execs_cons (seg_If (wpAny_isTrue_Compare1 (ldE hn₅ up_eq (wpAny_Constant_int (eq_int (wpAny_truthy_bool ?_)))))))
  rw [if_pos (by decide)]
  refine seg_execs_cons (seg_If (wpAny_isTrue_Compare1 (ldE hn₅ (up_of up_eq) (wpAny_Constant_none (is_none_none (wpAny_truthy_bool ?_))))))
  rw [if_pos rfl]
  refine seg_execs_cons (seg_wrap (Raise_madeB PySem.F.excCall_ValueError PySem.F.excRaise_ValueError hA (ldB W₅ boot_VE ⟨rfl, args_cons (wpAny_Constant_str (args_nil ⟨by rw [sizeLine_eq]; simp, fun h₆ e hx => ?_⟩))⟩)))
  dsimp only at hx ⊢
  refine seg_wrap (wpAny_bind (looks_madeW hAf rfl (fun b o e => kB₅ b o (hbase b o e)) funG (Heap.MadeExc.of hx) fun h₇ t held tup ups₇ => wpAny_theTreesLotGoes ?_))
  refine seg_leaf (.error (.ref e)) ?_
  refine seg_wrap (wpAny_onRaise (wpAny_throw (backW (l := genv L cd :: outer) rfl held fun h₈ held₈ ups₈ => ?_)))
  refine seg_wrap (leaves_heldW' rfl held₈ fun h₉ fly ups₉ => ?_)
  refine seg_end (.error (.ref e)) ⟨e, t, _, h₉, _, rfl, rfl, fly, (tup.of_slots ups₈).of_slots ups₉, fun b o hb e0 hd => ?_⟩
  exact ((Heap.UpToSlots.of_keeps hx.keeps).trans (ups₇.trans (ups₈.trans ups₉))) b o (step b o hb e0) hd
end
end Mine
end
section
open PySem PySem.W PyProof.Rows PySem.Calls PySem.Spec
set_option maxRecDepth 100000
set_option maxHeartbeats 4000000
namespace Mine
def offOne (h : Heap) (a : Addr) : Heap := h.update a fun o => { o with data := .freed }
theorem offOne_self (h : Heap) (a : Addr) : (offOne h a).get? a = none := by
  obtain ⟨objs, l⟩ := h
  unfold offOne Heap.update Heap.get?
  simp only [Array.getElem?_modify]
  cases q : objs[a]? with
  | none => simp
  | some o => simp
theorem offOne_ne {h : Heap} {a b : Addr} (hb : b ≠ a) : (offOne h a).get? b = h.get? b := Heap.get?_update_ne _ _ _ _ hb
/-- the heap without the objects at S -/
def offs (h : Heap) : List Addr → Heap
  | [] => h
  | a :: S => offOne (offs h S) a
theorem offs_mem {h : Heap} {S : List Addr} {a : Addr} (ha : a ∈ S) : (offs h S).get? a = none := by
  induction S with
  | nil => cases ha
  | cons x S ih =>
    by_cases e : a = x
    · subst e; exact offOne_self _ _
    · rw [offs, offOne_ne e]
      exact ih ((List.mem_cons.mp ha).resolve_left e)
theorem offs_not {h : Heap} {S : List Addr} {a : Addr} (ha : a ∉ S) : (offs h S).get? a = h.get? a := by
  induction S with
  | nil => rfl
  | cons x S ih =>
    have hx : a ≠ x := fun e => ha (by rw [e]; exact .head _)
    rw [offs, offOne_ne hx]
    exact ih fun q => ha (.tail _ q)
theorem offs_sub {h : Heap} {S : List Addr} {a : Addr} {o : Obj} (e : (offs h S).get? a = some o) : a ∉ S ∧ h.get? a = some o := by
  by_cases ha : a ∈ S
  · rw [offs_mem ha] at e; cases e
  · exact ⟨ha, (offs_not ha) ▸ e⟩
theorem offs_stays {h h' : Heap} {S : List Addr} (k : ∀ b o, b ∉ S → h.get? b = some o → h'.get? b = some o) : (offs h S).StaysIn h' := fun b o e => k b o (offs_sub e).1 (offs_sub e).2
theorem funFrames_base {h base base' : Heap} {l : List Env} (hl : h.FunFrames base l) (hb : ∀ L ∈ l.filterMap (·.frame), base'.get? L = none) : h.FunFrames base' l := by
  induction l with
  | nil => trivial
  | cons env rest ih =>
    obtain ⟨hk, ⟨L, o, hf, hn, ho, hd⟩, hr⟩ := hl
    refine ⟨hk, ⟨L, o, hf, hb L (by rw [List.filterMap_cons, hf]; exact .head _), ho, hd⟩, ih hr fun L' hL' => hb L' ?_⟩
    rw [List.filterMap_cons, hf]; exact .tail _ hL'
theorem FlyingW_mono {base base' h : Heap} {l : List Env} {e : Addr} {cls a0 : Value} (k : ∀ b o, base'.get? b = some o → base.get? b = some o) (x : Heap.FlyingW base l e cls a0 h) : Heap.FlyingW base' l e cls a0 h := by
  have nn : ∀ b, base.get? b = none → base'.get? b = none := fun b hb => by
    cases q : base'.get? b with
    | none => rfl
    | some o => rw [k b o q] at hb; cases hb
  obtain ⟨f1, f2, f3, oe, vs, T, oT, ts, he, hc, hd, h1, hT, r⟩ := x
  exact ⟨fun b o q => f1 b o (k b o q), nn _ f2, funFrames_base f3 fun L hL => nn _ (f3.mem hL).1, oe, vs, T, oT, ts, he, hc, hd, h1, nn _ hT, r⟩
theorem sub_VE_stop : isSubtype (.type "ValueError") (.type "StopIteration") = pure false := by rw [isSubtype_type]; kernel_rfl
section
variable {prog : Program} {w : World} {A : Around} {E : Value → Shared → Prop} {s : Shared} {mg mb : Str → Option Value}
theorem pyNext_E {base : Heap} {outer : List Env} {a L : Addr} {g n : Nat} {gs : GenState} {oa : Obj} {x1 x2 x3 : Value} {Q : Option Value → Shared → Prop} (hh : A.handled = none)
    (hl : s.heap.NoLimit) (hroom : A.depth < recursionLimit) (hg : s.heap.IsGen a g) (hgs : s.gens[g]? = some gs) (hoa : s.heap.get? a = some oa) (hba : base.get? a = some oa) (hd : oa.data = .fields #[x1, x2, x3])
    (hgo : gs.Goes (model prog w) A.in1 (RE base outer L) (fun _ _ _ _ _ => False) n (.send .none) (s.setGen g .running))
    (hE : ∀ e t tt h' tk, Heap.FlyingW base outer e (.type "ValueError") (.ref t) h' → h'.TupAt t [.str "invalid grouping" tt] → (∀ b o, b ≠ L → s.heap.get? b = some o → (∀ vs, o.data ≠ .fields vs) → ∃ sl, h'.get? b = some { o with slots := sl }) →
      E (.ref e) { s with heap := h', toks := tk, gens := (s.gens.setIfInBounds g .running).setIfInBounds g .finished }) :
    wpAny (model prog w) A (pyNext (.ref a)) Q E s := by
  unfold pyNext
  refine wpAny_bind (wpAny_attempt (wpAny_callSpecial?_slot (name := Str.ofString "__next__") hg.typeIs slot_gen_next
    (wpAny_call_entry slot_gen_next hg.typeIs entry_gen_next ?_ (args_gen_next _))))
  show wpAny _ A.in1 (Builtin.Generator.genWake (.ref a) (.send .none)) _ _ s
  unfold Builtin.Generator.genWake
  refine wpAny_bind (wpAny_holding (wpAny_genNumber hg (wpAny_bind (wpAny_genState hgs ?_))))
  cases gs with
  | running => exact hgo.elim
  | finished => exact hgo.elim
  | _ =>
    refine wpAny_bind (wpAny_roomToWake hl hroom ?_)
    show wpAny _ A.in1 (.resume g (.send .none) [] _) _ _ s
    refine wpAny_resumeQ hgs hgo (fun x s₁ hx => ?_) (fun v s₁ gs' hb hv => hv.elim)
    obtain ⟨e, t, tt, h', tk, rfl, rfl, fly, tup, ups⟩ := hx
    show wpAny _ A.in1 (Builtin.Generator.genLeft (.ref a) (.ref e)) _ _ _
    obtain ⟨ob, hob, hcls⟩ := fly.there
    have ha' : h'.get? a = some oa := fly.1 _ _ hba
    unfold Builtin.Generator.genLeft Builtin.Generator.madeByALambda Builtin.Generator.genEscaped
    dsimp only
    refine wpAny_bind (wpAny_bind (wpAny_load (o := oa) ha' (wpAny_pure ?_)))
    refine wpAny_bind (wpAny_isInstance (T := "ValueError") (b := false) ⟨ob, hob, hcls⟩ sub_VE_stop ?_)
    rw [Bool.and_false, if_neg (by decide)]
    refine wpAny_bind (wpAny_isInstance (T := "ValueError") (b := false) ⟨ob, hob, hcls⟩ sub_VE_stop ?_)
    rw [if_pos (by decide)]
    refine wpAny_bind (wpAny_throw ?_)
    refine wpAny_bind (wpAny_isInstance (T := "ValueError") (b := false) ⟨ob, hob, hcls⟩ sub_VE_stop ?_)
    rw [if_neg (by decide)]
    exact wpAny_throw (hE e t tt h' tk fly tup ups)
end
end Mine
end
section
open PySem PySem.W PyProof.Rows PySem.Calls PySem.Spec
set_option maxRecDepth 100000
set_option maxHeartbeats 4000000
namespace Mine
section
variable {prog : Program} {w : World} {A : Around} {E : Value → Shared → Prop} {s : Shared} {env : Env}
/-- a slice of a list, the slice's object just made -/
theorem sub_slice {value slice : Expr} {l : Addr} {vs : List Value} {vl vu vk : Value} {lo hi st : Option Int} {Q : Value → Shared → Prop} (hl : s.heap.IsList l vs.toArray) (pl : IsPart vl lo) (pu : IsPart vu hi) (pk : IsPart vk st) (h0 : st ≠ some 0) (hsz : vs.length ≤ 10000)
    (h : ∀ h' D, Keep s.heap h' → s.heap.get? D = none → h'.get? D = some (lobj (slicePick vs.toArray lo hi st).toList 0) → Q (.ref D) { s with heap := h' })
    (hs : ∃ ops, subscripted slice false (.ref l) (.ref s.heap.objs.size) = operate ops (getItem (.ref l) (.ref s.heap.objs.size)) := by exact ⟨_, by with_unfolding_all rfl⟩) :
    wpAny (model prog w) A (subscriptTail value slice (.ref l) (.ref s.heap.objs.size)) Q E { s with heap := s.heap.push { cls := .type "slice", data := .fields #[vl, vu, vk] } } := by
  obtain ⟨ops, hs⟩ := hs
  refine tail_any (Heap.IsList.typeIs (s := { s with heap := s.heap.push { cls := .type "slice", data := .fields #[vl, vu, vk] } }) (hl.push _)) list_getitem_lookup
    (wpAny_getItem_list_slice (hl.push _) (Heap.IsSliceOf.new ..) pl pu pk h0 ?_ (by rw [sizeLine_eq, List.size_toArray]; omega)) hs
  refine h _ _ (Keep.trans (Keep.push _ _) (Keep.push _ _)) (none_of_ge ?_) ?_
  · show s.heap.objs.size ≤ (s.heap.push _).objs.size
    rw [Heap.size_push]; exact Nat.le_succ _
  · show (Heap.push _ _).get? (s.heap.push _).objs.size = _
    rw [Heap.get?_push_size _ rfl]
end
end Mine
end
section
open PySem PySem.W PyProof.Rows PySem.Calls PySem.Spec PySem.NumText
set_option maxRecDepth 100000
set_option maxHeartbeats 4000000
namespace Mine
local macro_rules | `(tactic| walk_at "lk") => `(tactic| (repeat (first | exact up_eq | assumption | refine up_of ?_ (by decide))))
theorem elems_of {h₀ h : Heap} {L : Addr} {ys : List Value} : ∀ {P : Nat → List Value → Prop}, (∀ (i : Nat) y, ys[i]? = some y → ∃ a us k, y = Value.ref a ∧ h.get? a = some (lobj us k) ∧ a ≠ L ∧ h₀.get? a = none ∧ P i us) →
    ∃ els : List (Addr × Obj), News h₀ L h els ∧ ∀ (i : Nat) y, ys[i]? = some y → ∃ a us k, y = Value.ref a ∧ (a, lobj us k) ∈ els ∧ P i us := by
  induction ys with
  | nil => intro P _; exact ⟨[], fun p hp => (by cases hp), fun i y e => by simp at e⟩
  | cons v r ih =>
    intro P hP
    obtain ⟨els, N, hE⟩ := ih (P := fun i => P (i + 1)) fun i y e => hP (i + 1) y (by simpa using e)
    obtain ⟨a, us, k, rfl, ha, h1, h2, hp⟩ := hP 0 v rfl
    refine ⟨(a, lobj us k) :: els, fun p hp' => ?_, fun i y e => ?_⟩
    · rcases List.mem_cons.mp hp' with rfl | hp'
      · exact ⟨ha, h1, h2⟩
      · exact N p hp'
    · cases i with
      | zero =>
        obtain rfl : Value.ref a = y := by simpa using e
        exact ⟨a, us, k, rfl, .head _, hp⟩
      | succ i =>
        obtain ⟨a', us', k', e1, e2, e3⟩ := hE i y (by simpa using e)
        exact ⟨a', us', k', e1, .tail _ e2, e3⟩
theorem mul_zero_text (n : Int) (h : 0 ≤ n ∧ n ≤ 2) : Txt.mul (Str.ofString "0") n = ⟨(List.replicate n.toNat 48).toArray⟩ := by
  rcases (show n = 0 ∨ n = 1 ∨ n = 2 by omega) with rfl | rfl | rfl <;> decide
theorem mul_zero_ok (n : Int) (h : 0 ≤ n ∧ n ≤ 2) : MulOk (Str.ofString "0") n := by
  rcases (show n = 0 ∨ n = 1 ∨ n = 2 by omega) with rfl | rfl | rfl <;> (unfold MulOk; decide)
end Mine
end
section
open PySem PySem.W PyProof.Rows PySem.Calls PySem.Spec PySem.NumText
set_option maxRecDepth 100000
set_option maxHeartbeats 4000000
namespace Mine
local macro_rules | `(tactic| walk_at "lk") => `(tactic| (repeat (first | exact up_eq | assumption | refine up_of ?_ (by decide))))
section
variable {prog : Program} {w : World} {A : Around} {E : Value → Shared → Prop} {s : Shared} {env : Env} {h₀ : Heap}
/-- what a turn leaves that makes nothing of note -/
def TurnZ (h₀ : Heap) (L : Addr) (R : Result → Shared → Prop) (J : (Str → Option Value) → Prop) (h : Heap) (s : Shared) (f : Flow) (s' : Shared) : Prop := match f with
  | .ret v => R (.ok (.ret v)) s'
  | .brk => R (.ok .next) s'
  | _ => ∃ h' tk' m₂, s' = { s with heap := h', toks := tk' } ∧ Fr h₀ L h' m₂ ∧ J m₂ ∧ (∀ b o, b ≠ L → h.get? b = some o → h'.get? b = some o)
theorem for_zip {R : Result → Shared → Prop} {xa xb : Str} {pa pb pt : Pos} {kt : Nat} {body : List Stmt} {m₀ : Str → Option Value} {news : List (Addr × Obj)} {l1 l2 : Addr} {xs ys : Array Value} (hh : A.handled = none) (hl1 : s.heap.IsList l1 xs) (hl2 : s.heap.IsList l2 ys)
    (J : Nat → (Str → Option Value) → Prop) (h1L : l1 ≠ env.locals) (h2L : l2 ≠ env.locals)
    (F : Fr h₀ env.locals s.heap m₀) (N : News h₀ env.locals s.heap news) (hJ : J 0 m₀)
    (turn : ∀ i va vb m₁ h tk, xs[i]? = some va → ys[i]? = some vb → J i m₁ → Fr h₀ env.locals h (up (up m₁ xa va) xb vb) → News h₀ env.locals h news → ∀ E',
      wpAny (model prog w) A (execs body env) (TurnZ h₀ env.locals R (J (i + 1)) h s) E' { s with heap := h, toks := tk })
    (done : ∀ m₁ h tk, J (min xs.size ys.size) m₁ → Fr h₀ env.locals h m₁ → News h₀ env.locals h news → (∀ b o, b ≠ env.locals → s.heap.get? b = some o → h.get? b = some o) → R (.ok .next) { s with heap := h, toks := tk })
    (hka : env.kindOf xa = some .local := by rfl) (hkb : env.kindOf xb = some .local := by rfl) (hp : (env.scope.kind == .class || (env.scope.kind == .module && env.locals != env.globals)) = false := by rfl) :
    wpAny (model prog w) A (call (.type "zip") [.ref l1, .ref l2]) (fun xv s₁ => wpAny (model prog w) A (pyIter xv) (fun it s₂ => codeAny (model prog w) A (.forLoop (.Tuple [.Name xa pa, .Name xb pb] kt pt) it body [] env) R s₂) E s₁) E s := by
  refine zip_rows F hl1 hl2 fun h₁ z TI TO i1 i2 D hst F₁ hk₁ hz hTO hi1 hi2 hLs => ?_
  have W := WalksT.zip2 (prog := prog) (w := w) hh z TI TO i1 i2 l1 l2 D xs ys
  refine W.self 0 _ _ _ hst ?_
  have hLlt := F.ns.lt
  have hLw : env.locals ∉ [z, TO, i1, i2] := fun q => by
    simp only [List.mem_cons, List.not_mem_nil, or_false] at q
    obtain ⟨q1, q2, q3, q4⟩ := hLs
    rcases q with e | e | e | e
    · exact absurd (e ▸ q1) (Nat.lt_irrefl _)
    · exact absurd (e ▸ q2) (Nat.lt_irrefl _)
    · exact absurd (e ▸ q3) (Nat.lt_irrefl _)
    · exact absurd (e ▸ q4) (Nat.lt_irrefl _)
  have hTI0 : TI ≠ env.locals := fun q => by
    obtain ⟨_, hTI, _⟩ := hst
    obtain ⟨o, _, _, ho, hd, _⟩ := F₁.ns
    rw [← q, hTI] at ho
    cases ho
    cases hd
  have hLf : ∀ b ∈ [z, TI, TO, i1, i2, l1, l2], b ≠ env.locals := fun b hb q => by
    simp only [List.mem_cons, List.not_mem_nil, or_false] at hb
    rcases hb with e | e | e | e | e | e | e
    · exact hLw (by rw [← q, e]; exact .head _)
    · exact hTI0 (e ▸ q)
    · exact hLw (by rw [← q, e]; exact .tail _ (.head _))
    · exact hLw (by rw [← q, e]; exact .tail _ (.tail _ (.head _)))
    · exact hLw (by rw [← q, e]; exact .tail _ (.tail _ (.tail _ (.head _))))
    · exact h1L (e ▸ q)
    · exact h2L (e ▸ q)
  have hwge : ∀ b ∈ [z, TO, i1, i2], s.heap.objs.size ≤ b := fun b hb => by
    simp only [List.mem_cons, List.not_mem_nil, or_false] at hb
    rcases hb with rfl | rfl | rfl | rfl <;> assumption
  have hnw : ∀ b o, s.heap.get? b = some o → b ∉ [z, TO, i1, i2] := fun b o e hb => absurd (Heap.lt_size e) (Nat.not_lt.mpr (hwge b hb))
  have h0w : ∀ b o, h₀.get? b = some o → b ∉ [z, TO, i1, i2] := fun b o e => hnw b o (F.keep b o e)
  refine codeAny_forLoop_any (fun k s' => ∃ i h tk m₁, s' = { s with heap := h, toks := tk } ∧ i ≤ min xs.size ys.size ∧ k = min xs.size ys.size + 1 - i ∧
      (IsZip h z TI TO .none ∧ IsPair h TI (.ref i1) (.ref i2) ∧ (∃ a b, IsPair h TO a b) ∧ h.IsListIter i1 l1 i ∧ h.IsListIter i2 l2 i ∧ h.IsList l1 xs ∧ h.IsList l2 ys) ∧ J i m₁ ∧ Fr h₀ env.locals h m₁ ∧ News h₀ env.locals h news ∧ ∀ b o, b ≠ env.locals → s.heap.get? b = some o → h.get? b = some o) ?_ (min xs.size ys.size + 1)
    ⟨0, h₁, s.toks, m₀, rfl, Nat.zero_le _, rfl, hst, hJ, F₁, News.keep N fun p _ o e => hk₁ _ _ e, fun b o _ e => hk₁ b o e⟩
  rintro k s' ⟨i, h, tk, m₁, rfl, hi, rfl, hsti, hJi, Fi, Ni, hKi⟩
  have keepF : ∀ {h h' : Heap} {m}, Fr h₀ env.locals h m → (∀ b o, b ∉ [z, TO, i1, i2] → h.get? b = some o → h'.get? b = some o) → Fr h₀ env.locals h' m := fun G hk =>
    ⟨G.ns.at' fun o e => hk _ o hLw e, fun b o e => hk b o (h0w b o e) (G.keep b o e), G.above⟩
  have keepN : ∀ {h h' : Heap}, News h₀ env.locals h news → (∀ b o, b ∉ [z, TO, i1, i2] → h.get? b = some o → h'.get? b = some o) → News h₀ env.locals h' news := fun G hk =>
    News.keep G fun p hp o e => hk _ _ (hnw _ _ (N p hp).1) e
  by_cases hlt : i < min xs.size ys.size
  · refine W.item i _ _ _ hlt hsti fun T vals h₂ tk₂ hP hT hTup hMid hk₂ => ?_
    obtain ⟨va, vb, hva, hvb, rfl⟩ := hP
    have F₂ := keepF Fi hk₂
    have N₂ := keepN Ni hk₂
    refine W.go _ _ _ i T _ _ _ hMid fun h₃ st₃ hk₃ => ?_
    have F₃ := keepF F₂ hk₃
    have N₃ := keepN N₂ hk₃
    have hTw := W.apart i T _ hMid
    have hTup₃ : h₃.IsTuple T #[va, vb] := by obtain ⟨o, ho, r⟩ := hTup; exact ⟨o, hk₃ _ _ hTw ho, r⟩
    refine wpAny_assign_Tuple hh hTup₃ rfl rfl fun h₄ he₄ => ?_
    have k₄ : Keep h₃ h₄ := fun b o e => he₄ b o (Nat.ne_of_lt (Heap.lt_size e)) e
    have F₄ := F₃.after k₄
    have N₄ := News.keep N₃ fun p _ o e => k₄ _ _ e
    have st₄ := W.frame _ _ _ st₃ fun b _ o e => k₄ b o e
    show wpAny _ _ (assignInOrder [assign (.Name xa pa) env, assign (.Name xb pb) env] [va, vb]) _ _ _
    refine assignInOrder_cons (wpAny_assign_Name (stE F₄ N₄ (fun h₅ F₅ N₅ S₅ => assignInOrder_cons (wpAny_assign_Name (stE F₅ N₅ (fun h₆ F₆ N₆ S₆ => assignInOrder_nil ?_) hkb hp))) hka hp))
    dsimp only at S₅ S₆ ⊢
    have st₆ := W.frame _ _ _ st₄ fun b hb o e => S₆.extBut b o (hLf b hb) (S₅.extBut b o (hLf b hb) e)
    refine wpAny_mono (turn i va vb m₁ h₆ _ hva hvb hJi F₆ N₆ _) (fun f s₃ ht => ?_) fun _ _ e => e
    have fin : (∃ h' tk' m₂, s₃ = { s with heap := h', toks := tk' } ∧ Fr h₀ env.locals h' m₂ ∧ J (i + 1) m₂ ∧ (∀ b o, b ≠ env.locals → h₆.get? b = some o → h'.get? b = some o)) →
        ∃ mm, mm < min xs.size ys.size + 1 - i ∧ ∃ i h tk m₁, s₃ = { s with heap := h, toks := tk } ∧ i ≤ min xs.size ys.size ∧ mm = min xs.size ys.size + 1 - i ∧
      (IsZip h z TI TO .none ∧ IsPair h TI (.ref i1) (.ref i2) ∧ (∃ a b, IsPair h TO a b) ∧ h.IsListIter i1 l1 i ∧ h.IsListIter i2 l2 i ∧ h.IsList l1 xs ∧ h.IsList l2 ys) ∧ J i m₁ ∧ Fr h₀ env.locals h m₁ ∧ News h₀ env.locals h news ∧ ∀ b o, b ≠ env.locals → s.heap.get? b = some o → h.get? b = some o := by
      rintro ⟨h', tk', m₂, rfl, F', hJ', hk'⟩
      refine ⟨min xs.size ys.size + 1 - (i + 1), by omega, i + 1, h', tk', m₂, rfl, hlt, rfl, W.frame _ _ _ st₆ fun b hb o e => hk' b o (hLf b hb) e, hJ', F', News.keep N₆ fun p hp o e => hk' _ _ (N₆ p hp).2.1 e, fun b o hb e => hk' b o hb (S₆.extBut b o hb (S₅.extBut b o hb (k₄ b o (hk₃ b o (hnw b o e) (hk₂ b o (hnw b o e) (hKi b o hb e))))))⟩
    cases f with
    | ret v => exact ht
    | brk => exact ht
    | next => exact fin ht
    | cont => exact fin ht
  · obtain rfl : i = min xs.size ys.size := by omega
    refine W.done _ _ _ hsti fun h₂ tk₂ hk₂ => wpAny_execs_nil ?_
    exact done m₁ h₂ tk₂ hJi (keepF Fi hk₂) (keepN Ni hk₂) fun b o hb e => hk₂ b o (hnw b o e) (hKi b o hb e)
end
end Mine
end
section
open PySem PySem.W PyProof.Rows PySem.Calls PySem.Spec PySem.NumText
set_option maxRecDepth 100000
set_option maxHeartbeats 4000000
namespace Mine
theorem none_of_keep {h h' : Heap} {a : Addr} (hk : Keep h h') (h1 : h'.get? a = none) : h.get? a = none := by
  cases q : h.get? a with
  | none => rfl
  | some o => rw [hk _ _ q] at h1; cases h1
def SameOff (xs : List Str) (m m' : Str → Option Value) : Prop := ∀ x, x ∉ xs → m' x = m x
theorem SameOff.up {xs : List Str} {m m' : Str → Option Value} {x : Str} {v : Value} (h : SameOff xs m m') (hx : x ∈ xs := by decide) : SameOff xs m (up m' x v) := fun y hy => by
  show (if y = x then some v else m' y) = m y
  rw [if_neg (fun q => hy (by rw [q]; exact hx))]
  exact h y hy
theorem SameOff.at {xs : List Str} {m m' : Str → Option Value} {x : Str} {r : Option Value} (h : SameOff xs m m') (e : m x = r) (hx : x ∉ xs := by decide) : m' x = r := (h x hx).trans e
end Mine
end
section
open PySem PySem.W PyProof.Rows PySem.Calls PySem.Spec PySem.NumText
set_option maxRecDepth 100000
set_option maxHeartbeats 4000000
namespace Mine
/-- runs with one sign between -/
def sepC (c : Nat) : List (List Nat) → List (List Nat)
  | [] => []
  | [q] => [q]
  | q :: r => q :: [c] :: sepC c r
theorem sepC_cons (c : Nat) (q p : List Nat) (r : List (List Nat)) : sepC c (q :: p :: r) = q :: [c] :: sepC c (p :: r) := rfl
theorem join_flat (c : Nat) : ∀ qs : List (List Nat), (Txt.join ⟨#[c]⟩ (qs.map fun q => (⟨q.toArray⟩ : Str))).cps.toList = (sepC c qs).flatten := by
  intro qs
  unfold Txt.join
  rw [StrLaws.glued_eq_join]
  induction qs with
  | nil => rfl
  | cons q r ih =>
    cases r with
    | nil => simp [sepC, Str.join]
    | cons p r =>
      rw [sepC_cons, List.flatten_cons, List.flatten_cons, ← ih, List.map_cons]
      show (Str.cps (_ ++ _ ++ Str.join _ (List.map _ (p :: r)))).toList = _
      rw [Str.cps_append, Str.cps_append]
      simp
theorem sepC_cut {c : Nat} (hc : isSep c) : ∀ {qs : List (List Nat)} {tl : List (List Nat)}, (∀ q ∈ qs, digP q) → Cut tl → (∀ x, tl.flatten.head? = some x → ¬ isDig x) → Cut (sepC c qs ++ tl) := by
  intro qs
  induction qs with
  | nil => intro tl _ h _; exact h
  | cons q r ih =>
    intro tl hq h hx
    cases r with
    | nil => exact ⟨.inr ⟨hq q (.head _), hx⟩, h⟩
    | cons p r =>
      rw [sepC_cons]
      refine ⟨.inr ⟨hq q (.head _), fun x e => ?_⟩, .inl ⟨c, rfl, hc⟩, ih (fun q' h' => hq q' (.tail _ h')) h hx⟩
      obtain rfl : c = x := by simpa using e
      unfold isSep at hc
      unfold isDig
      omega
theorem sepC_out {c : Nat} (hc : isSep c) {qs : List (List Nat)} (hq : ∀ q ∈ qs, digP q) : cvOut (sepC c qs) = qs.flatMap fun q => [(100 : Int), ((digitsVal q : Nat) : Int)] := by
  induction qs with
  | nil => rfl
  | cons q r ih =>
    have e1 : outOf q = [(100 : Int), ((digitsVal q : Nat) : Int)] := by simp [outOf, dgB_of (hq q (.head _))]
    cases r with
    | nil => simp [sepC, cvOut, e1]
    | cons p r =>
      have e2 : outOf [c] = [] := by simp [outOf, sep_out ⟨c, rfl, hc⟩]
      have := ih fun q' h' => hq q' (.tail _ h')
      simp only [cvOut] at this ⊢
      rw [sepC_cons, List.flatMap_cons, List.flatMap_cons, this, e1, e2]
      simp
theorem cvOut_append (a b : List (List Nat)) : cvOut (a ++ b) = cvOut a ++ cvOut b := by simp [cvOut]
theorem sepC_len (c : Nat) : ∀ qs : List (List Nat), (sepC c qs).flatten.length ≤ (qs.map fun q => q.length + 1).sum := by
  intro qs
  induction qs with
  | nil => simp [sepC]
  | cons q r ih =>
    cases r with
    | nil => simp [sepC]
    | cons p r =>
      rw [sepC_cons, List.flatten_cons, List.flatten_cons, List.map_cons, List.sum_cons, List.length_append, List.length_append]
      simp only [List.length_cons, List.length_nil] at ih ⊢
      omega
theorem sum_le {qs : List (List Nat)} {k : Nat} (h : ∀ q ∈ qs, q.length ≤ k) : (qs.map fun q => q.length + 1).sum ≤ qs.length * (k + 1) := by
  induction qs with
  | nil => simp
  | cons q r ih =>
    have h1 := h q (.head _)
    have h2 := ih fun q' h' => h q' (.tail _ h')
    rw [List.map_cons, List.sum_cons, List.length_cons, Nat.succ_mul]
    omega
theorem strs_pairs {vs : List Value} {qs : List (List Nat)} (h : StrsAre vs qs) : ∃ l : List (Str × Tok), strValues l = vs ∧ l.map (·.1) = qs.map fun q => (⟨q.toArray⟩ : Str) := by
  induction h with
  | nil => exact ⟨[], rfl, rfl⟩
  | @cons q t vs qs _ ih =>
    obtain ⟨l, e1, e2⟩ := ih
    exact ⟨(⟨q.toArray⟩, t) :: l, by rw [← e1]; rfl, by rw [List.map_cons, e2]; rfl⟩
section
variable {prog : Program} {w : World} {A : Around} {E : Value → Shared → Prop} {s : Shared}
theorem join_meets {c : Nat} {t : Tok} {D : Addr} {vs : List Value} {qs : List (List Nat)} {Q : Value → Shared → Prop} (hl : s.heap.IsList D vs.toArray) (hi : StrsAre vs qs) (hq : ∀ q ∈ qs, q.length ≤ 600) (hn : qs.length ≤ 200)
    (h : ∀ t' k, Q (.str ⟨(sepC c qs).flatten.toArray⟩ t') { s with toks := k }) : ∃ S, Meets (Builtin.«str.join» ⟨[.str ⟨#[c]⟩ t, .ref D], []⟩) S ∧ S A (wants Q E) s := by
  obtain ⟨l, rfl, e⟩ := strs_pairs hi
  have hok : JoinOk ⟨#[c]⟩ (l.map (·.1)) = true := by
    refine joinOk_of_weight ?_ (by show (1 : Nat) ≤ 16; omega)
    rw [e, List.map_map, List.length_map]
    have h1 := sum_le hq
    have h2 : ∀ qs : List (List Nat), (qs.map ((fun x : Str => x.length) ∘ fun q => (⟨q.toArray⟩ : Str))).sum + qs.length = (qs.map fun q => q.length + 1).sum := by
      intro qs
      induction qs with
      | nil => rfl
      | cons q r ih =>
        simp only [List.map_cons, List.sum_cons, List.length_cons] at ih ⊢
        have e : ((fun x : Str => x.length) ∘ fun q => (⟨q.toArray⟩ : Str)) q = q.length := by simp [Str.length]
        omega
    have h3 := h2 qs
    have h4 : qs.length * 601 ≤ 200 * 601 := Nat.mul_le_mul_right _ hn
    omega
  have hok' := hok
  unfold JoinOk at hok
  rw [Bool.not_eq_true'] at hok
  have e2 : Txt.join ⟨#[c]⟩ (l.map (·.1)) = ⟨(sepC c qs).flatten.toArray⟩ := by
    rw [e]
    have := join_flat c qs
    generalize Txt.join ⟨#[c]⟩ (qs.map fun q => (⟨q.toArray⟩ : Str)) = z at this
    cases z with
    | mk a => simp only at this; rw [← this]
  refine ⟨_, PySem.meets_str_join_list ⟨#[c]⟩ t D l hok, hl, post_join l ⟨joinFit_length hok, ?_⟩⟩
  rw [e2]
  exact h
end
end Mine
end
section
open PySem PySem.W PyProof.Rows PySem.Calls PySem.Spec PySem.NumText
set_option maxRecDepth 100000
set_option maxHeartbeats 4000000
namespace Mine
local macro_rules | `(tactic| walk_at "lk") => `(tactic| (repeat (first | exact up_eq | assumption | refine up_of ?_ (by decide))))
theorem picks2 {ns : List Int} : ∀ {vs : List Value}, IntsAre vs (ns.flatMap fun n => [100, n]) →
    IntsAre ((List.range ns.length).filterMap fun k => vs[2 * k + 0]?) (ns.map fun _ => 100) ∧ IntsAre ((List.range ns.length).filterMap fun k => vs[2 * k + 1]?) ns := by
  induction ns with
  | nil => intro vs _; exact ⟨.nil, .nil⟩
  | cons n r ih =>
    intro vs h
    have h' : IntsAre vs (100 :: n :: r.flatMap fun n => [100, n]) := by simpa using h
    cases h' with
    | cons _ t h1 => cases h1 with
      | cons _ u h2 =>
        obtain ⟨i1, i2⟩ := ih h2
        rw [List.length_cons, List.range_succ_eq_map, List.filterMap_cons, List.filterMap_cons, List.filterMap_map, List.filterMap_map]
        rename_i vs'
        have e : ∀ a : Nat, (fun k => (Value.int 100 t :: Value.int n u :: vs')[2 * k + a]?) ∘ Nat.succ = fun k => vs'[2 * k + a]? := fun a => by
          funext k
          show (Value.int 100 t :: Value.int n u :: vs')[2 * (k + 1) + a]? = _
          rw [show 2 * (k + 1) + a = (2 * k + a) + 1 + 1 by omega, List.getElem?_cons_succ, List.getElem?_cons_succ]
        rw [e 0, e 1]
        exact ⟨.cons _ _ i1, .cons _ _ i2⟩
theorem slice_two {vs : List Value} {n a : Nat} (hn : vs.length = 2 * n) (ha : a = 0 ∨ a = 1) : (slicePick vs.toArray (some (a : Int)) none (some 2)).toList = (List.range n).filterMap fun k => vs[2 * k + a]? := by
  unfold slicePick sliceBounds sliceRange
  simp only [List.size_toArray, hn, Option.getD_some]
  have e1 : max 0 (min (if (a : Int) < 0 then (a : Int) + ((2 * n : Nat) : Int) else (a : Int)) ((2 * n : Nat) : Int)) = if n = 0 then 0 else (a : Int) := by
    rw [if_neg (by omega)]; split <;> omega
  simp only [show ((2 : Int) > 0) = True from by simp, if_true, e1]
  by_cases h0 : n = 0
  · subst h0; simp
  · rw [if_neg h0, if_pos (by omega)]
    have e2 : ((((2 * n : Nat) : Int) - (a : Int) + 2 - 1) / 2).toNat = n := by omega
    rw [e2, List.filterMap_map]
    congr 1
    funext k
    have e3 : ((a : Int) + 2 * (k : Int)).toNat = 2 * k + a := by omega
    simp [e3]
end Mine
end
section
open PySem PySem.W PyProof.Rows PySem.Calls PySem.Spec PySem.NumText
set_option maxRecDepth 100000
set_option maxHeartbeats 4000000
namespace Mine
theorem rep_fold (x : Value) (k : Nat) : List.foldl (fun x1 x2 => x1 ++ x2) #[] (List.replicate k #[x]) = (List.replicate k x).toArray := by
  have : ∀ (k : Nat) (acc : Array Value), List.foldl (fun x1 x2 => x1 ++ x2) acc (List.replicate k #[x]) = acc ++ (List.replicate k x).toArray := by
    intro k
    induction k with
    | zero => intro acc; simp
    | succ k ih =>
      intro acc
      rw [List.replicate_succ, List.foldl_cons, ih, List.replicate_succ]
      apply Array.toList_inj.mp
      simp
  rw [this]; simp
theorem ints_rep (ns : List Int) (c : Int) (t : Tok) : IntsAre (List.replicate ns.length (.int c t)) (ns.map fun _ => c) := by
  induction ns with
  | nil => exact .nil
  | cons n r ih => exact .cons _ _ ih
section
variable {prog : Program} {w : World} {A : Around} {E : Value → Shared → Prop} {s : Shared} {mg mb : Str → Option Value} {h₀ : Heap} {L : Addr} {cd : Value} {m : Str → Option Value} {nx : List (Addr × Obj)}
theorem sub_slice2 {value : Expr} {pl pk p : Pos} {l : Addr} {vs : List Value} {n a : Nat} {Q : Value → Shared → Prop} {env : Env} (F : Fr h₀ L s.heap m) (N : News h₀ L s.heap nx) (hl : s.heap.IsList l vs.toArray) (hn : vs.length = 2 * n) (ha : a = 0 ∨ a = 1) (hsz : vs.length ≤ 10000)
    (h : ∀ h' D tk, Keep s.heap h' → s.heap.get? D = none → Fr h₀ L h' m → News h₀ L h' ((D, lobj ((List.range n).filterMap fun k => vs[2 * k + a]?) 0) :: nx) → Q (.ref D) { s with heap := h', toks := tk }) :
    wpAny (model prog w) A (eval (.Slice (some (.Constant (.int (a : Int)) 0 pl)) none (some (.Constant (.int 2) 0 pk)) p) env) (fun i s₂ => wpAny (model prog w) A (subscriptTail value (.Slice (some (.Constant (.int (a : Int)) 0 pl)) none (some (.Constant (.int 2) 0 pk)) p) (.ref l) i) Q E s₂) E s := by
  refine wpAny_Slice (wpAny_evalPart_some (wpAny_Constant_int (wpAny_evalPart_none (wpAny_evalPart_some (wpAny_Constant_int ?_)))))
  dsimp only
  refine sub_slice (s := { s with toks := s.toks + 1 + 1 }) (value := value) (slice := .Slice (some (.Constant (.int (a : Int)) 0 pl)) none (some (.Constant (.int 2) 0 pk)) p) (vs := vs) (lo := some (a : Int)) (hi := none) (st := some 2) hl (.int _ _) .none (.int _ _) (by simp) hsz fun h₂ D hk₂ hD hD' => ?_
  rw [slice_two hn ha] at hD'
  exact h h₂ D _ hk₂ hD (F.after hk₂) (News.consNew F (News.keep N fun p hp o e => hk₂ _ _ e) hD hD')
theorem flat2_len (ns : List Int) : (ns.flatMap fun n => [(100 : Int), n]).length = 2 * ns.length := by
  induction ns with
  | nil => rfl
  | cons x r ih => simp only [List.flatMap_cons, List.length_append, List.length_cons, List.length_nil, ih]; omega
end
end Mine
end
section
open PySem PySem.W PyProof.Rows PySem.Calls PySem.Spec PySem.NumText
set_option maxRecDepth 100000
set_option maxHeartbeats 4000000
namespace Mine
theorem ns_some_of {K : Frag} {h : Heap} {N : Addr} {mg : Str → Option Value} {n : Str} {v : Value} (X : K.In h) (G : h.Ns N mg) (e : nsIn K N n = some (some v)) : mg n = some v := by
  obtain ⟨o, es, ep, ho, hd, _, hf⟩ := G
  unfold nsIn at e
  split at e
  · rename_i c d es' n' sl q
    have := X _ _ q
    rw [ho] at this
    cases this
    cases hd
    split at e
    · rename_i he
      rw [← hf]
      unfold nsFind findBy
      rw [← Array.find?_toList, he]
      injection e with e
    · split at e <;> cases e
  · cases e
theorem fn_of {p : Program} {loose : List Str} {mean : ExcName → Option Value} {mg mb : Str → Option Value} {h : Heap} (T : Top p loose mean mg mb h) {k i : Nat} {name : Str} {d : DefRec} (hd : (recsOf p)[k]? = some d) (e1 : d.name = name) (e2 : d.params = prmP i) (e3 : d.body = bdyP i) (e4 : d.scope = scpP i) :
    ∃ a, mg name = some (.ref a) ∧ FnIs h a name i := by
  obtain ⟨a, o, pm, cd, doc, h1, h2, h3, h4⟩ := T.fn d (List.mem_of_getElem? hd)
  subst e1
  rw [e2, e3, e4] at h3
  exact ⟨a, h1, o, pm, cd, doc, h2, h3, h4⟩
theorem fn_at {h : Heap} {mg : Str → Option Value} {name : Str} {i : Nat} {b : Addr} (hx : ∃ a, mg name = some (.ref a) ∧ FnIs h a name i) (e : mg name = some (.ref b)) : FnIs h b name i := by
  obtain ⟨a, h1, h2⟩ := hx
  rw [e] at h1
  cases h1
  exact h2
theorem const_of {p : Program} {loose : List Str} {mean : ExcName → Option Value} {mg mb : Str → Option Value} {h : Heap} (T : Top p loose mean mg mb h) {x : Str} {n : Int} (hv : valOf p x = some (.int n)) : ∃ t, mg x = some (.int n t) := by
  obtain ⟨v, h1, h2⟩ := T.const _ _ hv
  have h3 := h2 h
  cases h3
  exact ⟨_, h1⟩
end Mine
end
section
open PySem PySem.W PyProof.Rows PySem.Calls PySem.Spec PySem.NumText
set_option maxRecDepth 100000
set_option maxHeartbeats 4000000
namespace Mine
local macro_rules | `(tactic| walk_at "lk") => `(tactic| (repeat (first | exact up_eq | assumption | refine up_of ?_ (by decide))))
def sz3 (x : Int) : List Int := [1 + x.fmod 5, 1 + (x.fdiv 5).fmod 5, 1 + (x.fdiv 25).fmod 5]
def szN (x : Int) : Int := 1 + (x.fdiv 125).fmod 3
def szs (x : Int) : List Int := (sz3 x).take (szN x).toNat
def endI (x : Int) : Int := (x.fdiv 375).fmod 3
def sepI (x : Int) : Int := (x.fdiv 1125).fmod 4
theorem fmod_range (x : Int) {k : Int} (h : 0 < k) : 0 ≤ x.fmod k ∧ x.fmod k < k := ⟨Int.fmod_nonneg_of_pos x h, Int.fmod_lt_of_pos x h⟩
theorem szN_range (x : Int) : 1 ≤ szN x ∧ szN x ≤ 3 := by
  have := fmod_range (x.fdiv 125) (show (0 : Int) < 3 by omega)
  unfold szN; omega
theorem sz3_mem (x : Int) : ∀ y ∈ sz3 x, 1 ≤ y ∧ y ≤ 5 := by
  intro y hy
  have h1 := fmod_range x (show (0 : Int) < 5 by omega)
  have h2 := fmod_range (x.fdiv 5) (show (0 : Int) < 5 by omega)
  have h3 := fmod_range (x.fdiv 25) (show (0 : Int) < 5 by omega)
  simp only [sz3, List.mem_cons, List.not_mem_nil, or_false] at hy
  rcases hy with rfl | rfl | rfl <;> omega
theorem szs_mem (x : Int) : ∀ y ∈ szs x, 1 ≤ y ∧ y ≤ 5 := fun y hy => sz3_mem x y (List.mem_of_mem_take hy)
theorem szs_len (x : Int) : 1 ≤ (szs x).length ∧ (szs x).length ≤ 3 := by
  have := szN_range x
  unfold szs
  rw [List.length_take]
  have e : (sz3 x).length = 3 := rfl
  omega
section
variable {prog : Program} {w : World} {A : Around} {E : Value → Shared → Prop} {R : Result → Shared → Prop} {s : Shared} {mg mb : Str → Option Value}
theorem sizes_spec {f : Addr} {x : Int} {t : Tok} (hf : FnIs s.heap f "_law_sizes" 10) (W : Wd mg mb s.heap) (hroom : A.depth < recursionLimit)
    (hR : ∀ r us n h' tk, s.heap.get? r = none → h'.get? r = some (lobj us n) → IntsAre us (szs x) → Keep s.heap h' → R (.ok (.ret (.ref r))) { s with heap := h', toks := tk }) :
    codeAny (model prog w) A (.call (.ref f) ⟨[.int x t], []⟩) R s := by
  refine call_fn (binds := [("x", .int x t)]) hf hroom W.lim (fun _ _ _ => rfl) (by rfl) fun cd h₁ F => ?_
  rw [bm1] at F
  refine wpAny_execs_cons (wpAny_Return_some (Subscript_ (List_ (args_cons (wpAny_BinOp (wpAny_Constant_int (wpAny_BinOp (ld (v := .int x t) F (by walk_at "lk") (wpAny_Constant_int (mod_int' (by decide) (add_int ?_)))))))))))
  refine args_cons (wpAny_BinOp (wpAny_Constant_int (wpAny_BinOp (wpAny_BinOp (ld (v := .int x t) F (by walk_at "lk") (wpAny_Constant_int (floordiv_int (by decide) (wpAny_Constant_int (mod_int' (by decide) (add_int ?_))) (.inl (PyProof.noPylong_small (by decide)))))))))) 
  refine args_cons (wpAny_BinOp (wpAny_Constant_int (wpAny_BinOp (wpAny_BinOp (ld (v := .int x t) F (by walk_at "lk") (wpAny_Constant_int (floordiv_int (by decide) (wpAny_Constant_int (mod_int' (by decide) (add_int (args_nil (newLst ?_))))) (.inl (PyProof.noPylong_small (by decide)))))))))) 
  have hk₁ := F.keep
  dsimp only
  generalize hvs : [Value.int (1 + x.fmod 5) _, Value.int (1 + (x.fdiv 5).fmod 5) _, Value.int (1 + (x.fdiv 25).fmod 5) _] = vs
  have hi : IntsAre vs (sz3 x) := by rw [← hvs]; exact .cons _ _ (.cons _ _ (.cons _ _ .nil))
  have hl3 : vs.length = 3 := by rw [← hvs]; rfl
  clear hvs
  have F₂ := F.push (lobj vs 0)
  have hg : (h₁.push (lobj vs 0)).get? h₁.objs.size = some (lobj vs 0) := Heap.get?_push_size _ rfl
  generalize h₁.push (lobj vs 0) = h₂ at F₂ hg ⊢
  generalize h₁.objs.size = a1 at hg ⊢
  refine wpAny_Slice (wpAny_evalPart_none (wpAny_evalPart_some (wpAny_BinOp (wpAny_Constant_int (wpAny_BinOp (wpAny_BinOp (ld (v := .int x t) F₂ (by walk_at "lk") (wpAny_Constant_int (floordiv_int (by decide) (wpAny_Constant_int (mod_int' (by decide) (add_int (wpAny_evalPart_none ?_)))) (.inl (PyProof.noPylong_small (by decide))) )))))))))
  have hn := szN_range x
  refine sub_slice (vs := vs) (lo := none) (hi := some (szN x)) (st := none) ⟨_, hg, rfl, _, rfl⟩ .none (.int _ _) .none (by simp) (by omega) fun h₃ D hk₃ hD hD' => ?_
  have e5 : (slicePick vs.toArray none (some (szN x)) none).toList = vs.take (szN x).toNat := by
    obtain ⟨n, hn'⟩ : ∃ n : Nat, szN x = (n : Int) := ⟨(szN x).toNat, by omega⟩
    rw [hn', slicePick_upto']; simp
  rw [e5] at hD'
  refine hR D _ _ h₃ _ (none_of_keep F₂.keep hD) hD' (hi.take _) (Keep.trans F₂.keep hk₃)
end
end Mine
end
section
open PySem PySem.W PyProof.Rows PySem.Calls PySem.Spec PySem.NumText
set_option maxRecDepth 100000
set_option maxHeartbeats 4000000
namespace Mine
local macro_rules | `(tactic| walk_at "lk") => `(tactic| (repeat (first | exact up_eq | assumption | refine up_of ?_ (by decide))))
def cfStep (p : Int × Int) (s : Int) : Int × Int := (s * p.1 + p.2, p.1)
def lastI (l : List Int) : Int := l.getLast?.getD 0
def cfL (l : List Int) : Int × Int := l.dropLast.reverse.foldl cfStep (lastI l + 1, 1)
def numI (l : List Int) (e : Int) : List Int := if e = 0 then l ++ [lastI l, lastI l] else [(cfL l).1, (cfL l).2]
theorem last_at {l : List Int} (h : 0 < l.length) : l[l.length - 1]? = some (lastI l) := by
  unfold lastI
  rw [← List.getLast?_eq_getElem?]
  cases e : l.getLast? with
  | none => rw [List.getLast?_eq_none_iff] at e; subst e; simp at h
  | some a => rfl
theorem rev_pick {vs : List Value} (h : vs.length ≤ 2) : (slicePick vs.toArray none none (some (-1))).toList = vs.reverse := by
  match vs, h with
  | [], _ => rfl
  | [a], _ => simp [slicePick, sliceBounds, sliceRange]
  | [a, b], _ => simp [slicePick, sliceBounds, sliceRange, List.range, List.range.loop]
theorem but_pick {vs : List Value} : (slicePick vs.toArray none (some (-1)) none).toList = vs.dropLast := by
  have := slicePick_butLast vs.toArray 1 (by omega)
  rw [show (-(((1 : Nat) : Nat) : Int)) = -1 from rfl] at this
  rw [this, List.dropLast_eq_take]; simp
theorem IntsAre.dropLast {vs : List Value} {ns : List Int} (h : IntsAre vs ns) : IntsAre vs.dropLast ns.dropLast := by
  rw [List.dropLast_eq_take, List.dropLast_eq_take, h.length]; exact h.take _
theorem IntsAre.reverse {vs : List Value} {ns : List Int} (h : IntsAre vs ns) : IntsAre vs.reverse ns.reverse := by
  induction h with
  | nil => exact .nil
  | cons n t _ ih => rw [List.reverse_cons, List.reverse_cons]; exact ints_append ih (.cons _ _ .nil)
section
variable {prog : Program} {w : World} {A : Around} {E : Value → Shared → Prop} {R : Result → Shared → Prop} {s : Shared} {mg mb : Str → Option Value}
theorem sub_last {value slice : Expr} {l : Addr} {vs : List Value} {u : Tok} {x : Value} {Q : Value → Shared → Prop} (hl : s.heap.IsList l vs.toArray) (hne : 0 < vs.length) (hx : vs[vs.length - 1]? = some x) (h : Q x s)
    (hs : subscripted slice false (.ref l) (.int (-1) u) = operate [.ref l, .int (-1) u] (getItem (.ref l) (.int (-1) u)) := by with_unfolding_all rfl) :
    wpAny (model prog w) A (subscriptTail value slice (.ref l) (.int (-1) u)) Q E s :=
  tail_any hl.typeIs slot_list_getitem.lookup (wpAny_getItem_list_neg hl (by omega) (by rw [List.size_toArray]; omega) (by omega) (by
    rw [List.size_toArray, List.getElem?_toArray, show ((-1 : Int) + (vs.length : Nat)).toNat = vs.length - 1 by omega]; exact hx) h) hs
theorem unpackT {t : Addr} {items : Array Value} {n : Nat} {Q : List Value → Shared → Prop} (hh : A.handled = none) (ht : IsTup s.heap t items) (hn : n = items.size)
    (h : ∀ h', Keep s.heap h' → Q items.toList { s with heap := h' }) : wpAny (model prog w) A (unpackItems (.ref t) n none) Q E s := by
  subst hn
  exact unpackItems_tuple hh ht fun h' he => h h' fun b o e => he b o (Nat.ne_of_lt (Heap.lt_size e)) e
theorem number_spec {f sf : Addr} {x : Int} {t : Tok} (hf : FnIs s.heap f "_law_number" 11) (hs : FnIs s.heap sf "_law_sizes" 10) (hsf : mg "_law_sizes" = some (.ref sf)) (W : Wd mg mb s.heap) (hroom : A.depth + 1 < recursionLimit) (hh : A.handled = none)
    (hR : ∀ r us n h' tk, s.heap.get? r = none → h'.get? r = some (lobj us n) → IntsAre us (numI (szs x) (endI x)) → Keep s.heap h' → R (.ok (.ret (.ref r))) { s with heap := h', toks := tk }) :
    codeAny (model prog w) A (.call (.ref f) ⟨[.int x t], []⟩) R s := by
  refine call_fn (binds := [("x", .int x t)]) hf (by omega) W.lim (fun _ _ _ => rfl) (by rfl) fun cd h₁ F => ?_
  rw [bm1] at F
  have W₁ := W.keeps F.keep
  have hh' : (A.deeper (envOf "_law_number" (scpP 11) s.heap.objs.size f cd)).handled = none := hh
  refine wpAny_execs_cons (wpAny_Assign_Name (Call_ (ldG W₁ hsf (cwF (hs.keeps F.keep) (args_cons (ld (v := .int x t) F (by walk_at "lk") (args_nil ⟨fun _ _ e => e, sizes_spec (hs.keeps F.keep) W₁ ?_ ?_⟩ )))))))
  · show A.depth + 1 < recursionLimit; exact hroom
  intro sz us n h₂ tk₂ hsz hsz' hus hk₂
  dsimp only [wants] at hsz hsz' hk₂ ⊢
  have F₂ := F.after hk₂
  have N₂ := News.consNew F (News.nil (h₀ := s.heap) (L := s.heap.objs.size) (h := h₂)) hsz hsz'
  obtain ⟨hl1, hl2⟩ := szs_len x
  have hmem := szs_mem x
  have hul := hus.length
  generalize szs x = zs at hus hl1 hl2 hmem hul hR
  obtain ⟨tl, hlast⟩ : ∃ tl, us[us.length - 1]? = some (Value.int (lastI zs) tl) := by
    obtain ⟨tl, e⟩ := hus.get (us.length - 1) (lastI zs) (by rw [hul]; exact last_at (by omega))
    exact ⟨tl, e⟩
  have hlb : 1 ≤ lastI zs ∧ lastI zs ≤ 5 := hmem _ (List.mem_of_getElem? (last_at (by omega)))
  refine stU F₂ N₂ fun h₃ F₃ N₃ S₃ => ?_
  dsimp only at S₃ ⊢
  have hl₃ : h₃.IsList sz us.toArray := ⟨_, N₃.get (.head _), rfl, _, rfl⟩
  refine wpAny_execs_cons (wpAny_If (wpAny_isTrue_Compare1 (wpAny_BinOp (wpAny_BinOp (ld (v := .int x t) F₃ (by walk_at "lk") (wpAny_Constant_int (floordiv_int (by decide) (wpAny_Constant_int (mod_int' (by decide) (wpAny_Constant_int (eq_int (wpAny_truthy_bool ?_))))) (.inl (PyProof.noPylong_small (by decide))) )))))))
  have he : (x.fdiv 375).fmod 3 = endI x := rfl
  rw [he]
  generalize endI x = ee at *
  by_cases h0 : ee = 0
  · rw [if_pos (by simp [h0])]
    refine wpAny_execs_cons (wpAny_Return_some (wpAny_BinOp (ld (v := .ref sz) F₃ (by walk_at "lk") (List_ (args_cons (Subscript_ (ld (v := .ref sz) F₃ (by walk_at "lk") (UnaryOp_ (wpAny_Constant_int (neg_int (sub_last hl₃ (by omega) hlast ?_ )))))))))))
    refine args_cons (Subscript_ (ld (v := .ref sz) F₃ (by walk_at "lk") (UnaryOp_ (wpAny_Constant_int (neg_int (sub_last hl₃ (by omega) hlast (args_nil (newLst ?_ ))))))))
    have F₄ := F₃.push (lobj [.int (lastI zs) tl, .int (lastI zs) tl] 0)
    have N₄ := N₃.push F₃ (lobj [.int (lastI zs) tl, .int (lastI zs) tl] 0)
    dsimp only
    generalize h₃.push (lobj [.int (lastI zs) tl, .int (lastI zs) tl] 0) = h₄ at F₄ N₄ ⊢
    generalize h₃.objs.size = a4 at N₄ ⊢
    refine add_lists_ints (vs := us) (ws := [.int (lastI zs) tl, .int (lastI zs) tl]) F₄ N₄ ⟨_, N₄.get (.tail _ (.head _)), rfl, _, rfl⟩ ⟨_, N₄.get (.head _), rfl, _, rfl⟩ hus (.cons _ _ (.cons _ _ .nil)) (fun h₅ F₅ N₅ hi₅ => ?_) (by rw [sizeLine_eq]; simp; omega)
    refine hR _ _ _ h₅ _ (N₅ _ (.head _)).2.2 (N₅.get (.head _)) ?_ F₅.keep
    rw [numI, if_pos h0]; exact hi₅
  · rw [if_neg (by simp [h0])]
    refine wpAny_execs_nil ?_
    refine wpAny_execs_cons (wpAny_Assign_Name (wpAny_BinOp (Subscript_ (ld (v := .ref sz) F₃ (by walk_at "lk") (UnaryOp_ (wpAny_Constant_int (neg_int (sub_last hl₃ (by omega) hlast (wpAny_Constant_int (add_int ?_ ))))))))))
    refine stU F₃ N₃ fun h₄ F₄ N₄ S₄ => ?_
    refine wpAny_execs_cons (wpAny_Assign_Name (wpAny_Constant_int (stU F₄ N₄ fun h₅ F₅ N₅ S₅ => ?_)))
    dsimp only at S₄ S₅ ⊢
    have hl₅ : h₅.IsList sz us.toArray := ⟨_, N₅.get (.head _), rfl, _, rfl⟩
    refine wpAny_execs_cons (wpAny_For (Subscript_ (Subscript_ (ld (v := .ref sz) F₅ (by walk_at "lk") (wpAny_Slice (wpAny_evalPart_none (wpAny_evalPart_some (UnaryOp_ (wpAny_Constant_int (neg_int (wpAny_evalPart_none ?_ )))))))))))
    refine sub_slice (vs := us) (lo := none) (hi := some (-1)) (st := none) hl₅ .none (.int _ _) .none (by simp) (by omega) fun h₆ D₆ hk₆ hD₆ hD₆' => ?_
    rw [but_pick] at hD₆'
    have F₆ := F₅.after hk₆
    dsimp only
    refine wpAny_Slice (wpAny_evalPart_none (wpAny_evalPart_none (wpAny_evalPart_some (UnaryOp_ (wpAny_Constant_int (neg_int ?_ ))))))
    refine sub_slice (vs := us.dropLast) (lo := none) (hi := none) (st := some (-1)) ⟨_, hD₆', rfl, _, rfl⟩ .none .none (.int _ _) (by simp) (by rw [List.length_dropLast]; omega) fun h₇ D₇ hk₇ hD₇ hD₇' => ?_
    rw [rev_pick (by rw [List.length_dropLast]; omega)] at hD₇'
    have F₇ := F₆.after hk₇
    have hrv := (IntsAre.dropLast hus).reverse
    have hrl : zs.dropLast.reverse.length ≤ 2 := by rw [List.length_reverse, List.length_dropLast]; omega
    have hrm : ∀ y ∈ zs.dropLast.reverse, 1 ≤ y ∧ y ≤ 5 := fun y hy => hmem y (List.dropLast_subset _ (List.mem_reverse.mp hy))
    have hcf : cfL zs = zs.dropLast.reverse.foldl cfStep (lastI zs + 1, 1) := rfl
    generalize zs.dropLast.reverse = ks at hrv hrl hrm hcf
    generalize us.dropLast.reverse = kv at hrv hD₇'
    have hDL : D₇ ≠ s.heap.objs.size := fun q => by
      obtain ⟨_, _, _, ho, _⟩ := F₆.ns; rw [q, ho] at hD₇; cases hD₇
    refine for_list (env := envOf "_law_number" (scpP 11) s.heap.objs.size f cd) hh' (items := kv.toArray) ⟨_, hD₇', rfl, _, rfl⟩
      (fun i m nx g => nx = [] ∧ g = s.gens ∧ ∃ u lo tu tlo, m "upper" = some (.int u tu) ∧ m "lower" = some (.int lo tlo) ∧ (u, lo) = (ks.take i).foldl cfStep (lastI zs + 1, 1) ∧ 1 ≤ lo ∧ lo ≤ u ∧ u ≤ (if i = 0 then 6 else if i = 1 then 36 else 216)) [] (by simp) hDL (by simp) F₇ News.nil ?_ ?_ ?_
    · exact ⟨rfl, rfl, _, _, _, _, by walk_at "lk", by walk_at "lk", rfl, by omega, by omega, by rw [if_pos rfl]; omega⟩
    · rintro I i v m₁ nx h tk g hv ⟨rfl, rfl, u, lo, tu, tlo, hm1, hm2, hul', hb1, hb2, hb3⟩ Fi Ni hni hI hIL hIm E'
      obtain ⟨z, tz, rfl, hz⟩ := IntsAre.item hrv (by simpa using hv)
      have hzb := hrm z (List.mem_of_getElem? hz)
      have hi2 : i < 2 := by have := (List.getElem?_eq_some_iff.mp hz).1; omega
      have hub : u ≤ 36 := by
        have h3 := hb3
        split at h3
        · omega
        · split at h3 <;> omega
      have hzu : 0 ≤ z * u ∧ z * u ≤ 5 * u := ⟨Int.mul_nonneg (by omega) (by omega), Int.mul_le_mul_of_nonneg_right hzb.2 (by omega)⟩
      have hzu1 : u ≤ z * u := by have := Int.mul_le_mul_of_nonneg_right hzb.1 (show 0 ≤ u by omega); omega
      refine wpAny_execs_cons (Assign_Tuple_swapped (names := ["upper", "lower"]) (Tuple_ (args_cons (wpAny_BinOp (wpAny_BinOp (ld (v := .int z tz) Fi (by walk_at "lk") (ld (v := .int u tu) Fi (by walk_at "lk") (mul_int ?_ (IntMulOk.of_left (intBits_le_64 (by omega) (by omega))) ))))))))
      refine ld (v := .int lo tlo) Fi (by walk_at "lk") (add_int (args_cons (ld (v := .int u tu) Fi (by walk_at "lk") (args_nil (newTup ?_ )))))
      have Fp := Fi.push (tobj [.int (z * u + lo) (tk + 1), .int u tu])
      dsimp only
      refine unpackT (items := #[.int (z * u + lo) (tk + 1), .int u tu]) hh' ⟨_, Heap.get?_push_size _ rfl, rfl, _, rfl⟩ rfl fun h₈ he₈ => ?_
      have k₈ : Keep h h₈ := Keep.trans (Keep.push _ _) he₈
      have F₈ := Fi.after k₈
      refine assignInOrder_cons (bindName_ (stE (env := envOf "_law_number" (scpP 11) s.heap.objs.size f cd) F₈ News.nil (fun h₉ F₉ N₉ S₉ => assignInOrder_cons (bindName_ (stE F₉ N₉ (fun hA FA NA SA => assignInOrder_nil (wpAny_execs_nil ?_)) rfl rfl))) rfl rfl))
      dsimp only at S₉ SA ⊢
      have hst : (ks.take (i + 1)) = ks.take i ++ [z] := by rw [List.take_add_one, hz]; rfl
      refine ⟨hA, _, s.gens, _, [], rfl, FA, NA, ⟨rfl, rfl, z * u + lo, u, _, _, up_eq, up_of up_eq, ?_, by omega, by omega, ?_⟩, fun p hp => (by cases hp), fun b o hb _ e => SA.extBut b o hb (S₉.extBut b o hb (k₈ b o e))⟩
      · rw [hst, List.foldl_append, ← hul']; rfl
      · rcases (show i = 0 ∨ i = 1 by omega) with rfl | rfl
        · rw [if_neg (by omega), if_pos (by omega)]; rw [if_pos rfl] at hb3; omega
        · rw [if_neg (by omega), if_neg (by omega)]; omega
    · rintro m₁ nx h tk g ⟨rfl, rfl, u, lo, tu, tlo, hm1, hm2, hul', hb1, hb2, hb3⟩ Fi Ni
      dsimp only
      have hks : ks.take kv.toArray.size = ks := by rw [List.size_toArray, hrv.length, List.take_length]
      rw [hks, ← hcf] at hul'
      refine wpAny_execs_cons (wpAny_Return_some (List_ (args_cons (ld (v := .int u tu) Fi hm1 (args_cons (ld (v := .int lo tlo) Fi hm2 (args_nil (newLst ?_ ))))))))
      have FZ := Fi.push (lobj [.int u tu, .int lo tlo] 0)
      refine hR _ _ _ _ _ (none_of_keep Fi.keep (none_of_ge (Nat.le_refl _))) (Heap.get?_push_size _ rfl) ?_ FZ.keep
      rw [numI, if_neg h0, ← hul']
      exact .cons _ _ (.cons _ _ .nil)
end
end Mine
end
section
open PySem PySem.W PyProof.Rows PySem.Calls PySem.Spec PySem.NumText
set_option maxRecDepth 100000
set_option maxHeartbeats 4000000
namespace Mine
local macro_rules | `(tactic| walk_at "lk") => `(tactic| (repeat (first | exact up_eq | assumption | refine up_of ?_ (by decide))))
theorem mul_bd {a b : Int} {A B : Nat} (ha : a.natAbs ≤ A) (hb : b.natAbs ≤ B) : (a * b).natAbs ≤ A * B := by
  rw [Int.natAbs_mul]; exact Nat.mul_le_mul ha hb
theorem ok_of {a b : Int} (h : a.natAbs ≤ 10000000000000000000) : IntMulOk a b := IntMulOk.of_left (intBits_le_64 (by omega) (by omega))
def sgn3 (a b : Int) : Int := if a = b then 0 else if a < b then 1 else -1
def sideI (num : List Int) (p q : Int) : Int :=
  if num.length = 2 then sgn3 (p * num.getD 1 0) (num.getD 0 0 * q)
  else if p - num.getD 0 0 * q ≤ 0 then 1
  else if q - num.getD 1 0 * (p - num.getD 0 0 * q) > 0 ∧ (q - num.getD 1 0 * (p - num.getD 0 0 * q)) * (q - num.getD 1 0 * (p - num.getD 0 0 * q) + num.getD 2 0 * (p - num.getD 0 0 * q)) > (p - num.getD 0 0 * q) * (p - num.getD 0 0 * q) then 1 else -1
theorem getD_some {l : List Int} {i : Nat} (h : i < l.length) : l[i]? = some (l.getD i 0) := by
  rw [List.getD_eq_getElem?_getD, List.getElem?_eq_getElem h]; rfl
section
variable {prog : Program} {w : World} {A : Around} {E : Value → Shared → Prop} {R : Result → Shared → Prop} {s : Shared} {mg mb : Str → Option Value}
theorem side_spec {f nr : Addr} {us : List Value} {num : List Int} {kn : Nat} {p q : Int} {tp tq : Tok} (hf : FnIs s.heap f "_law_side" 12) (W : Wd mg mb s.heap) (hroom : A.depth < recursionLimit)
    (hn : s.heap.get? nr = some (lobj us kn)) (hi : IntsAre us num) (hlen : 2 ≤ num.length ∧ num.length ≤ 10) (hb : ∀ y ∈ num, y.natAbs ≤ 1000) (hp : p.natAbs ≤ 1000000) (hq : q.natAbs ≤ 1000000)
    (hR : ∀ h' tk t, Keep s.heap h' → R (.ok (.ret (.int (sideI num p q) t))) { s with heap := h', toks := tk }) :
    codeAny (model prog w) A (.call (.ref f) ⟨[.ref nr, .int p tp, .int q tq], []⟩) R s := by
  refine call_fn (binds := [("number", .ref nr), ("p", .int p tp), ("q", .int q tq)]) hf hroom W.lim (fun _ _ _ => rfl) (by rfl) fun cd h₁ F => ?_
  rw [bm3] at F
  have W₁ := W.keeps F.keep
  have hul := hi.length
  have hl₁ : h₁.IsList nr us.toArray := ⟨_, F.keep _ _ hn, rfl, _, rfl⟩
  have bd : ∀ i, i < num.length → (num.getD i 0).natAbs ≤ 1000 := fun i h => hb _ (List.mem_of_getElem? (getD_some h))
  obtain ⟨t0, h0⟩ := hi.get 0 _ (getD_some (l := num) (i := 0) (by omega))
  obtain ⟨t1, h1⟩ := hi.get 1 _ (getD_some (l := num) (i := 1) (by omega))
  have b0 := bd 0 (by omega)
  have b1 := bd 1 (by omega)
  refine wpAny_execs_cons (wpAny_If (wpAny_isTrue_Compare1 (Call_ (ldB W₁ boot_len (cwB (args_cons (ld (v := .ref nr) F (by walk_at "lk") (args_nil (call_len_list hl₁ ?_ (wpAny_Constant_int (eq_int (wpAny_truthy_bool ?_ ))))))))))))
  · rw [List.size_toArray]; omega
  rw [List.size_toArray, hul]
  unfold sideI at hR
  by_cases h2 : num.length = 2
  · rw [if_pos h2] at hR
    rw [if_pos (by rw [h2]; rfl)]
    generalize num.getD 0 0 = n0 at hR h0 b0
    generalize num.getD 1 0 = n1 at hR h1 b1
    refine wpAny_execs_cons (wpAny_Assign_Name (wpAny_BinOp (ld (v := .int p tp) F (by walk_at "lk") (Subscript_ (ld (v := .ref nr) F (by walk_at "lk") (wpAny_Constant_int (sub_list hl₁ (by omega) (by omega) h1 (mul_int ?_ (ok_of (by omega)) ))))))))
    refine stU F News.nil fun h₃ F₃ N₃ S₃ => ?_
    have hl₃ : h₃.IsList nr us.toArray := ⟨_, F₃.keep _ _ hn, rfl, _, rfl⟩
    refine wpAny_execs_cons (wpAny_Assign_Name (wpAny_BinOp (Subscript_ (ld (v := .ref nr) F₃ (by walk_at "lk") (wpAny_Constant_int (sub_list hl₃ (by omega) (by omega) h0 (ld (v := .int q tq) F₃ (by walk_at "lk") (mul_int ?_ (ok_of (by omega)) ))))))))
    refine stU F₃ News.nil fun h₄ F₄ N₄ S₄ => ?_
    unfold sgn3 at hR
    generalize p * n1 = left at hR F₄
    generalize n0 * q = right at hR F₄
    refine wpAny_execs_cons (wpAny_Return_some (IfExp_ (wpAny_isTrue_Compare1 (ld (v := .int left _) F₄ (up_of up_eq) (ld (v := .int right _) F₄ up_eq (eq_int (wpAny_truthy_bool ?_ )))))))
    by_cases c1 : left = right
    · rw [if_pos c1] at hR
      rw [if_pos (by simp [c1])]
      exact wpAny_Constant_int (hR h₄ _ _ F₄.keep)
    · rw [if_neg c1] at hR
      rw [if_neg (by simp [c1])]
      refine IfExp_ (wpAny_isTrue_Compare1 (ld (v := .int left _) F₄ (up_of up_eq) (ld (v := .int right _) F₄ up_eq (lt_int (wpAny_truthy_bool ?_ )))))
      by_cases c2 : left < right
      · rw [if_pos c2] at hR
        rw [if_pos (decide_eq_true c2)]
        exact wpAny_Constant_int (hR h₄ _ _ F₄.keep)
      · rw [if_neg c2] at hR
        rw [if_neg (by simpa using c2)]
        exact UnaryOp_ (wpAny_Constant_int (neg_int (hR h₄ _ _ F₄.keep)))
  · rw [if_neg h2] at hR
    rw [if_neg (by simp; omega)]
    obtain ⟨t2, h2'⟩ := hi.get 2 _ (getD_some (l := num) (i := 2) (by omega))
    have b2 := bd 2 (by omega)
    refine wpAny_execs_nil ?_
    generalize num.getD 0 0 = n0 at hR h0 b0
    generalize num.getD 1 0 = n1 at hR h1 b1
    generalize num.getD 2 0 = n2 at hR h2' b2
    refine wpAny_execs_cons (wpAny_Assign_Name (wpAny_BinOp (ld (v := .int p tp) F (by walk_at "lk") (wpAny_BinOp (Subscript_ (ld (v := .ref nr) F (by walk_at "lk") (wpAny_Constant_int (sub_list hl₁ (by omega) (by omega) h0 (ld (v := .int q tq) F (by walk_at "lk") (mul_int (sub_int ?_) (ok_of (by omega)) ))))))))))
    refine stU F News.nil fun h₃ F₃ N₃ S₃ => ?_
    have hl₃ : h₃.IsList nr us.toArray := ⟨_, F₃.keep _ _ hn, rfl, _, rfl⟩
    have m1 := mul_bd b0 hq
    have hdb : (p - n0 * q).natAbs ≤ 2000000000 := by omega
    refine wpAny_execs_cons (wpAny_Assign_Name (wpAny_BinOp (ld (v := .int q tq) F₃ (by walk_at "lk") (wpAny_BinOp (Subscript_ (ld (v := .ref nr) F₃ (by walk_at "lk") (wpAny_Constant_int (sub_list hl₃ (by omega) (by omega) h1 (ld (v := .int (p - n0 * q) _) F₃ up_eq (mul_int (sub_int ?_) (ok_of (by omega)) ))))))))))
    refine stU F₃ News.nil fun h₄ F₄ N₄ S₄ => ?_
    have hl₄ : h₄.IsList nr us.toArray := ⟨_, F₄.keep _ _ hn, rfl, _, rfl⟩
    have m2 := mul_bd b1 hdb
    have heb : (q - n1 * (p - n0 * q)).natAbs ≤ 3000000000000 := by omega
    refine wpAny_execs_cons (wpAny_Return_some (IfExp_ (wpAny_isTrue_BoolOp (wpAny_allTrue_Or_cons (wpAny_isTrue_Compare1 (ld (v := .int (p - n0 * q) _) F₄ (up_of up_eq) (wpAny_Constant_int (le_int (wpAny_truthy_bool ?_ )))))))))
    by_cases c1 : (p - n0 * q) ≤ 0
    · rw [if_pos c1] at hR
      rw [if_pos (decide_eq_true c1), if_pos rfl]
      exact wpAny_Constant_int (hR h₄ _ _ F₄.keep)
    · rw [if_neg c1] at hR
      rw [if_neg (by simpa using c1)]
      refine wpAny_allTrue_Or_cons (wpAny_isTrue_BoolOp (wpAny_allTrue_And_cons (wpAny_isTrue_Compare1 (ld (v := .int (q - n1 * (p - n0 * q)) _) F₄ up_eq (wpAny_Constant_int (gt_int (wpAny_truthy_bool ?_ )))))))
      by_cases c2 : (q - n1 * (p - n0 * q)) > 0
      · rw [if_pos (decide_eq_true c2)]
        refine wpAny_allTrue_And_cons (wpAny_isTrue_Compare1 (wpAny_BinOp (ld (v := .int (q - n1 * (p - n0 * q)) _) F₄ up_eq (wpAny_BinOp (ld (v := .int (q - n1 * (p - n0 * q)) _) F₄ up_eq (wpAny_BinOp (Subscript_ (ld (v := .ref nr) F₄ (by walk_at "lk") (wpAny_Constant_int (sub_list hl₄ (by omega) (by omega) h2' (ld (v := .int (p - n0 * q) _) F₄ (up_of up_eq) (mul_int (add_int (mul_int ?_ (ok_of (by omega)))) (ok_of (by omega)) ))))))))))))
        refine wpAny_BinOp (ld (v := .int (p - n0 * q) _) F₄ (up_of up_eq) (ld (v := .int (p - n0 * q) _) F₄ (up_of up_eq) (mul_int (gt_int (wpAny_truthy_bool ?_)) (ok_of (by omega)) )))
        by_cases c3 : (q - n1 * (p - n0 * q)) * ((q - n1 * (p - n0 * q)) + n2 * (p - n0 * q)) > (p - n0 * q) * (p - n0 * q)
        · rw [if_pos ⟨c2, c3⟩] at hR
          rw [if_pos (decide_eq_true c3)]
          refine wpAny_allTrue_And_nil ?_
          rw [if_pos rfl, if_pos rfl]
          exact wpAny_Constant_int (hR h₄ _ _ F₄.keep)
        · rw [if_neg (fun h => c3 h.2)] at hR
          rw [if_neg (by simpa using c3)]
          rw [if_neg (by decide)]
          refine wpAny_allTrue_Or_nil ?_
          rw [if_neg (by decide)]
          exact UnaryOp_ (wpAny_Constant_int (neg_int (hR h₄ _ _ F₄.keep)))
      · rw [if_neg (fun h => c2 h.1)] at hR
        rw [if_neg (by simpa using c2)]
        rw [if_neg (by decide)]
        refine wpAny_allTrue_Or_nil ?_
        rw [if_neg (by decide)]
        exact UnaryOp_ (wpAny_Constant_int (neg_int (hR h₄ _ _ F₄.keep)))
end
end Mine
end
section
open PySem PySem.W PyProof.Rows PySem.Calls PySem.Spec PySem.NumText
set_option maxRecDepth 100000
set_option maxHeartbeats 4000000
namespace Mine
local macro_rules | `(tactic| walk_at "lk") => `(tactic| (repeat (first | exact up_eq | assumption | refine up_of ?_ (by decide))))
def wayF (num : List Int) : Nat → List Nat → Int → Int → Int → Int → List Nat
  | 0, w, _, _, _, _ => w
  | k + 1, w, l0, l1, r0, r1 =>
    if sideI num (l0 + r0) (l1 + r1) = 0 then w ++ [77]
    else if sideI num (l0 + r0) (l1 + r1) > 0 then wayF num k (w ++ [82]) (l0 + r0) (l1 + r1) r0 r1
    else wayF num k (w ++ [76]) l0 l1 (l0 + r0) (l1 + r1)
def wayI (num : List Int) : List Nat := wayF num 16 [] 0 1 1 0
theorem snoc_M (w : List Nat) : (⟨w.toArray⟩ : Str) ++ Str.ofString "M" = ⟨(w ++ [77]).toArray⟩ := by
  apply congrArg Str.mk; apply Array.toList_inj.mp; simp; rfl
theorem snoc_R (w : List Nat) : (⟨w.toArray⟩ : Str) ++ Str.ofString "R" = ⟨(w ++ [82]).toArray⟩ := by
  apply congrArg Str.mk; apply Array.toList_inj.mp; simp; rfl
theorem snoc_L (w : List Nat) : (⟨w.toArray⟩ : Str) ++ Str.ofString "L" = ⟨(w ++ [76]).toArray⟩ := by
  apply congrArg Str.mk; apply Array.toList_inj.mp; simp; rfl
theorem pow_le {k : Nat} (h : k ≤ 15) : 2 ^ (k + 1) ≤ 65536 := Nat.pow_le_pow_right (by omega) (show k + 1 ≤ 16 by omega)
section
variable {prog : Program} {w : World} {A : Around} {E : Value → Shared → Prop} {R : Result → Shared → Prop} {s : Shared} {mg mb : Str → Option Value}
theorem way_spec {f sf nr : Addr} {us : List Value} {num : List Int} {kn : Nat} (hf : FnIs s.heap f "_law_way" 13) (hs : FnIs s.heap sf "_law_side" 12) (hsf : mg "_law_side" = some (.ref sf)) (W : Wd mg mb s.heap) (hroom : A.depth + 1 < recursionLimit)
    (hn : s.heap.get? nr = some (lobj us kn)) (hi : IntsAre us num) (hlen : 2 ≤ num.length ∧ num.length ≤ 10) (hb : ∀ y ∈ num, y.natAbs ≤ 1000)
    (hR : ∀ h' tk t, Keep s.heap h' → R (.ok (.ret (.str ⟨(wayI num).toArray⟩ t))) { s with heap := h', toks := tk }) :
    codeAny (model prog w) A (.call (.ref f) ⟨[.ref nr], []⟩) R s := by
  refine call_fn (binds := [("number", .ref nr)]) hf (by omega) W.lim (fun _ _ _ => rfl) (by rfl) fun cd h₁ F => ?_
  rw [bm1] at F
  refine wpAny_execs_cons (wpAny_Assign_Name (wpAny_Constant_str (stU F News.nil fun h₂ F₂ N₂ S₂ => ?_)))
  refine wpAny_execs_cons (wpAny_Assign_Name (List_ (args_cons (wpAny_Constant_int (args_cons (wpAny_Constant_int (args_nil (newLst ?_ ))))))))
  dsimp only
  generalize hlv : [Value.int 0 _, Value.int 1 _] = lv
  have hil : IntsAre lv [0, 1] := by rw [← hlv]; exact .cons _ _ (.cons _ _ .nil)
  clear hlv
  have F₃ := F₂.push (lobj lv 0)
  have N₃ := N₂.push F₂ (lobj lv 0)
  refine stU F₃ N₃ fun h₄ F₄ N₄ S₄ => ?_
  dsimp only
  generalize h₂.objs.size = la at F₄ N₄
  refine wpAny_execs_cons (wpAny_Assign_Name (List_ (args_cons (wpAny_Constant_int (args_cons (wpAny_Constant_int (args_nil (newLst ?_ ))))))))
  dsimp only
  generalize hlv : [Value.int 1 _, Value.int 0 _] = rv
  have hir : IntsAre rv [1, 0] := by rw [← hlv]; exact .cons _ _ (.cons _ _ .nil)
  clear hlv
  have F₅ := F₄.push (lobj rv 0)
  have N₅ := N₄.push F₄ (lobj rv 0)
  refine stU F₅ N₅ fun h₆ F₆ N₆ S₆ => ?_
  dsimp only
  generalize h₄.objs.size = ra at F₆ N₆
  refine wpAny_execs_cons (wpAny_While (codeAny_whileLoop (fun nn s' => ∃ h tk m nx j wl l0 l1 r0 r1 t la ra lv rv k1 k2, s' = { s with heap := h, toks := tk } ∧ Fr s.heap s.heap.objs.size h m ∧ News s.heap s.heap.objs.size h nx ∧
      m "number" = some (.ref nr) ∧ m "way" = some (.str ⟨wl.toArray⟩ t) ∧ m "left" = some (.ref la) ∧ m "right" = some (.ref ra) ∧ (la, lobj lv k1) ∈ nx ∧ (ra, lobj rv k2) ∈ nx ∧ IntsAre lv [l0, l1] ∧ IntsAre rv [r0, r1] ∧
      wl.length = j ∧ j ≤ 16 ∧ nn = 16 - j ∧ wayF num (16 - j) wl l0 l1 r0 r1 = wayI num ∧ l0.natAbs ≤ 2 ^ j ∧ l1.natAbs ≤ 2 ^ j ∧ r0.natAbs ≤ 2 ^ j ∧ r1.natAbs ≤ 2 ^ j) ?_ 16 ?_))
  rotate_left
  · exact ⟨h₆, _, _, _, 0, [], 0, 1, 1, 0, _, la, ra, lv, rv, 0, 0, rfl, F₆, N₆, by walk_at "lk", up_of (up_of up_eq), up_of up_eq, up_eq, .tail _ (.head _), .head _, hil, hir, rfl, by omega, rfl, rfl, by decide, by decide, by decide, by decide⟩
  rintro nn s' ⟨h, tk, m, nx, j, wl, l0, l1, r0, r1, t, la, ra, lv, rv, k1, k2, rfl, Fi, Ni, hm1, hm2, hm3, hm4, hla, hra, hil, hir, hwl, hj, rfl, hway, b1, b2, b3, b4⟩
  have Wi := W.keeps Fi.keep
  refine wpAny_isTrue_Compare1 (Call_ (ldB Wi boot_len (cwB (args_cons (ld (v := .str ⟨wl.toArray⟩ t) Fi hm2 (args_nil (PyProof.Rows.len_str ?_ (wpAny_Constant_int (lt_int (wpAny_truthy_bool ?_ ))))))))))
  · show ¬ ((wl.toArray.size : Nat) : Int) ≥ 2 ^ 63
    rw [List.size_toArray]; omega
  have el : (Str.length ⟨wl.toArray⟩) = j := by show wl.toArray.size = j; rw [List.size_toArray, hwl]
  rw [el]
  by_cases hlt : j < 16
  · rw [if_pos (by simp; omega)]
    have pj := pow_le (k := j) (by omega)
    have pj2 : 2 ^ (j + 1) = 2 ^ j + 2 ^ j := by rw [Nat.pow_succ]; omega
    obtain ⟨tl0, e0⟩ := hil.get 0 l0 rfl
    obtain ⟨tl1, e1⟩ := hil.get 1 l1 rfl
    obtain ⟨tr0, e2⟩ := hir.get 0 r0 rfl
    obtain ⟨tr1, e3⟩ := hir.get 1 r1 rfl
    have gl : h.IsList la lv.toArray := ⟨_, Ni.get hla, rfl, _, rfl⟩
    have gr : h.IsList ra rv.toArray := ⟨_, Ni.get hra, rfl, _, rfl⟩
    refine wpAny_execs_cons (wpAny_Assign_Name (List_ (args_cons (wpAny_BinOp (Subscript_ (ld (v := .ref la) Fi hm3 (wpAny_Constant_int (sub_list gl (by omega) (by omega) e0 (Subscript_ (ld (v := .ref ra) Fi hm4 (wpAny_Constant_int (sub_list gr (by omega) (by omega) e2 (add_int ?_ )))))))))))))
    refine args_cons (wpAny_BinOp (Subscript_ (ld (v := .ref la) Fi hm3 (wpAny_Constant_int (sub_list gl (by omega) (by omega) e1 (Subscript_ (ld (v := .ref ra) Fi hm4 (wpAny_Constant_int (sub_list gr (by omega) (by omega) e3 (add_int (args_nil (newLst ?_ ))))))))))))
    dsimp only
    generalize hlv : [Value.int (l0 + r0) _, Value.int (l1 + r1) _] = pv
    have hip : IntsAre pv [l0 + r0, l1 + r1] := by rw [← hlv]; exact .cons _ _ (.cons _ _ .nil)
    clear hlv
    have Fp := Fi.push (lobj pv 0)
    have Np := Ni.push Fi (lobj pv 0)
    refine stU Fp Np fun h₇ F₇ N₇ S₇ => ?_
    dsimp only
    generalize h.objs.size = pa at F₇ N₇
    have W₇ := W.keeps F₇.keep
    obtain ⟨tp0, e4⟩ := hip.get 0 (l0 + r0) rfl
    obtain ⟨tp1, e5⟩ := hip.get 1 (l1 + r1) rfl
    have gp : h₇.IsList pa pv.toArray := ⟨_, N₇.get (.head _), rfl, _, rfl⟩
    have c1 : (l0 + r0).natAbs ≤ 2 ^ (j + 1) := by omega
    have c2 : (l1 + r1).natAbs ≤ 2 ^ (j + 1) := by omega
    refine wpAny_execs_cons (wpAny_Assign_Name (Call_ (ldG W₇ hsf (cwF (hs.keeps F₇.keep) (args_cons (ld (v := .ref nr) F₇ (up_of hm1) (args_cons (Subscript_ (ld (v := .ref pa) F₇ up_eq (wpAny_Constant_int (sub_list gp (by omega) (by omega) e4 (args_cons (Subscript_ (ld (v := .ref pa) F₇ up_eq (wpAny_Constant_int (sub_list gp (by omega) (by omega) e5 (args_nil ⟨fun _ _ e => e, side_spec (num := num) (hs.keeps F₇.keep) W₇ hroom (F₇.keep _ _ hn) hi hlen hb (by omega) (by omega) ?_⟩ )))))))))))))))))
    intro h₈ tk₈ t₈ hk₈
    dsimp only [wants] at hk₈ ⊢
    have F₈ := F₇.after hk₈
    have N₈ := News.keep N₇ fun p hp o e => hk₈ _ _ e
    refine stU F₈ N₈ fun h₉ F₉ N₉ S₉ => ?_
    dsimp only
    have hdn : 16 - j = (16 - (j + 1)) + 1 := by omega
    rw [hdn, wayF] at hway
    generalize sideI num (l0 + r0) (l1 + r1) = sd at hway F₉
    refine wpAny_execs_cons (wpAny_If (wpAny_isTrue_Compare1 (ld (v := .int sd t₈) F₉ up_eq (wpAny_Constant_int (eq_int (wpAny_truthy_bool ?_ ))))))
    by_cases s0 : sd = 0
    · rw [if_pos s0] at hway
      rw [if_pos (by simp [s0])]
      refine wpAny_execs_cons (wpAny_Return_some (wpAny_BinOp (ld (v := .str ⟨wl.toArray⟩ t) F₉ (by walk_at "lk") (wpAny_Constant_str ?_))))
      refine PyProof.Rows.add_str (fun t' tk' => ?_) ?_
      · rw [snoc_M, hway]
        exact hR h₉ _ _ F₉.keep
      · rw [el, sizeLine_eq]; show j + 1 ≤ _; omega
    · rw [if_neg s0] at hway
      rw [if_neg (by simp [s0])]
      refine wpAny_execs_nil ?_
      refine wpAny_execs_cons (wpAny_If (wpAny_isTrue_Compare1 (ld (v := .int sd t₈) F₉ up_eq (wpAny_Constant_int (gt_int (wpAny_truthy_bool ?_ ))))))
      by_cases s1 : sd > 0
      · rw [if_pos s1] at hway
        rw [if_pos (decide_eq_true s1)]
        refine wpAny_execs_cons (wpAny_AugAssign_Name (ldn (v := .str ⟨wl.toArray⟩ t) F₉ (by walk_at "lk") (wpAny_Constant_str (PyProof.Rows.iadd_str (fun t' tk' => ?_) (by rw [el, sizeLine_eq]; show j + 1 ≤ _; omega)))))
        rw [snoc_R]
        refine stU F₉ N₉ fun hA FA NA SA => ?_
        refine wpAny_execs_cons (wpAny_Assign_Name (ld (v := .ref pa) FA (by walk_at "lk") (stU FA NA fun hB FB NB SB => ?_)))
        refine wpAny_execs_nil (wpAny_execs_nil ?_)
        exact ⟨16 - (j + 1), by omega, hB, _, _, _, j + 1, wl ++ [82], _, _, _, _, _, pa, ra, pv, rv, _, _, rfl, FB, NB, by walk_at "lk", by walk_at "lk", by walk_at "lk", by walk_at "lk", .head _, .tail _ hra, hip, hir, by simp [hwl], by omega, rfl, hway, c1, c2, by omega, by omega⟩
      · rw [if_neg s1] at hway
        rw [if_neg (by simpa using s1)]
        refine wpAny_execs_cons (wpAny_AugAssign_Name (ldn (v := .str ⟨wl.toArray⟩ t) F₉ (by walk_at "lk") (wpAny_Constant_str (PyProof.Rows.iadd_str (fun t' tk' => ?_) (by rw [el, sizeLine_eq]; show j + 1 ≤ _; omega)))))
        rw [snoc_L]
        refine stU F₉ N₉ fun hA FA NA SA => ?_
        refine wpAny_execs_cons (wpAny_Assign_Name (ld (v := .ref pa) FA (by walk_at "lk") (stU FA NA fun hB FB NB SB => ?_)))
        refine wpAny_execs_nil (wpAny_execs_nil ?_)
        exact ⟨16 - (j + 1), by omega, hB, _, _, _, j + 1, wl ++ [76], _, _, _, _, _, la, pa, lv, pv, _, _, rfl, FB, NB, by walk_at "lk", by walk_at "lk", by walk_at "lk", by walk_at "lk", .tail _ hla, .head _, hil, hip, by simp [hwl], by omega, rfl, hway, by omega, by omega, c1, c2⟩
  · rw [if_neg (by simp; omega)]
    obtain rfl : j = 16 := by omega
    refine wpAny_execs_nil ?_
    dsimp only
    refine wpAny_execs_cons (wpAny_Return_some (ld (v := .str ⟨wl.toArray⟩ t) Fi hm2 ?_))
    have : wl = wayI num := hway
    rw [this]
    exact hR h _ _ Fi.keep
end
end Mine
end
section
open PySem PySem.W PyProof.Rows PySem.Calls PySem.Spec PySem.NumText
set_option maxRecDepth 100000
set_option maxHeartbeats 4000000
namespace Mine
local macro_rules | `(tactic| walk_at "lk") => `(tactic| (repeat (first | exact up_eq | assumption | refine up_of ?_ (by decide))))
def ledF (f : Nat → Option Int) : Nat → Nat → List Nat → Nat → List Nat
  | 0, _, w, _ => w
  | d + 1, k, w, c => match f k with
    | none => w ++ [77]
    | some y => if (w ++ List.replicate y.toNat c).length > 15 then (w ++ List.replicate y.toNat c).take 16 else ledF f d (k + 1) (w ++ List.replicate y.toNat c) (if c = 82 then 76 else 82)
def ledI (ns : List Int) : List Nat := ledF (gout ns none) 17 0 [] 82
theorem mul_letter {c : Nat} {n : Int} (hc : c = 82 ∨ c = 76) (h : 1 ≤ n ∧ n ≤ 5) : Txt.mul ⟨#[c]⟩ n = ⟨(List.replicate n.toNat c).toArray⟩ ∧ MulOk ⟨#[c]⟩ n := by
  rcases (show n = 1 ∨ n = 2 ∨ n = 3 ∨ n = 4 ∨ n = 5 by omega) with rfl | rfl | rfl | rfl | rfl <;> rcases hc with rfl | rfl <;> exact ⟨by decide, by unfold MulOk; decide⟩
open PySem.Builtin PySem.Builtin.Str in
theorem take_16 {w : List Nat} (h : 16 ≤ w.length) : Txt.slice ⟨w.toArray⟩ none (some 16) = ⟨(w.take 16).toArray⟩ := by
  have hl : (Str.length ⟨w.toArray⟩) = w.length := by show w.toArray.size = _; rw [List.size_toArray]
  have e1 : strSliceIndices none (some 16) 1 w.length = strSliceIndices (some ((0 : Nat) : Int)) (some ((16 : Nat) : Int)) 1 w.length := by
    simp only [strSliceIndices]
    congr 1
  have e2 := StrLaws.sliced_plain (⟨w.toArray⟩ : Str) (a := 0) (b := 16) (by omega) (by rw [hl]; exact h)
  rw [hl] at e2
  unfold Txt.slice
  rw [hl, e1, StrLaws.strSliceIndices_plain (by omega) h] 
  rw [StrLaws.strSliceIndices_plain (by omega) h] at e2
  split
  · rename_i hc
    have : w.length = 16 := by simp at hc; omega
    rw [← this, List.take_length]
  · rw [e2]; simp
theorem app_flat (a b : List Nat) : (⟨a.toArray⟩ : Str) ++ (⟨b.toArray⟩ : Str) = ⟨(a ++ b).toArray⟩ := by
  apply congrArg Str.mk; apply Array.toList_inj.mp; simp
section
variable {prog : Program} {w : World} {A : Around} {E : Value → Shared → Prop} {R : Result → Shared → Prop} {s : Shared} {mg mb : Str → Option Value}
theorem led_spec {f l : Addr} {vs : List Value} {ns : List Int} (hf : FnIs s.heap f "_law_led" 14) (W : Wd mg mb s.heap) (hroom : A.depth + 1 < recursionLimit) (hh : A.handled = none)
    (hl : s.heap.IsList l vs.toArray) (hi : IntsAre vs ns) (h0 : ns[0]? ≠ some 0) (hg : ∀ k y, gout ns none k = some y → 1 ≤ y ∧ y ≤ 5) (hab : AllBare s.gens)
    (hR : ∀ h' tk t gg, Keep s.heap h' → AllBare gg → R (.ok (.ret (.str ⟨(ledI ns).toArray⟩ t))) { s with heap := h', toks := tk, gens := gg }) :
    codeAny (model prog w) A (.call (.ref f) ⟨[.ref l], []⟩) R s := by
  refine call_fn (binds := [("numbers", .ref l)]) hf (by omega) W.lim (fun _ _ _ => rfl) (by rfl) fun cd h₁ F => ?_
  rw [bm1] at F
  refine wpAny_execs_cons (wpAny_Assign_Name (wpAny_Constant_str (stU F News.nil fun h₃ F₃ N₃ S₃ => ?_)))
  refine wpAny_execs_cons (wpAny_Assign_Name (wpAny_Constant_str (stU F₃ N₃ fun h₄ F₄ N₄ S₄ => ?_)))
  have W₄ := W.keeps F₄.keep
  refine wpAny_execs_cons (wpAny_For (Call_ (ldG W₄ W.grp (cwF W₄.fgrp (args_cons (ld F₄ (by walk_at "lk") (args_nil ⟨fun _ _ e => e, grp_call W₄ ?_ ?_⟩)))))))
  · show A.depth + 1 < recursionLimit; exact hroom
  intro gcd h₅ tk₅ ob hns₅ hk₅ hsz₅ hgen hfree
  dsimp only [wants] at hns₅ hk₅ hsz₅ hgen ⊢
  refine wpAny_pyIter_gen hgen ?_
  have hmks : s.heap.objs.size < h₄.objs.size := F₄.ns.lt
  refine for_gen (L := h₄.objs.size) (n := 16) (mt := []) (cd := gcd) (g := s.gens.size) (vs := vs) (ns := ns) hh (by show A.depth + 1 < recursionLimit; exact hroom) W
    (fun k m nx => ∃ wl c t tc, m "way" = some (.str ⟨wl.toArray⟩ t) ∧ m "letter" = some (.str ⟨#[c]⟩ tc) ∧ (c = 82 ∨ c = 76) ∧ nx = [] ∧ k ≤ wl.length ∧ wl.length ≤ 15 ∧ ledF (gout ns none) (17 - k) k wl c = ledI ns)
    ?_ hl hi h0 (hns₅.push _) up_eq (Nat.ne_of_gt hmks) hgen (Nat.succ_ne_self _) (Nat.ne_of_gt (Nat.lt_succ_of_lt hmks)) (by simp) (by simp) (hab.push rfl) (by simp) (by simp) ((F₄.after hk₅).push _) (News.keep N₄ fun p hp o e => Heap.get?_push_of_some _ (hk₅ _ _ e)) (fun p hp => by cases hp) ?_ ?_ ?_
  · cases q : s.heap.get? h₄.objs.size with
    | none => rfl
    | some o => exact absurd (Heap.lt_size (F₄.keep _ _ q)) (Nat.lt_irrefl _)
  · exact ⟨[], 82, _, _, up_of up_eq, up_eq, .inl rfl, rfl, by simp, by simp, rfl⟩
  · rintro k y t m₁ nx h tk gg hk hy ⟨wl, c, tw, tc, hm1, hm2, hc, rfl, hkl, hwl, hled⟩ Fk Nk hnk hLk hIk hbk E'
    have hyb := hg k y hy
    obtain ⟨em, ok⟩ := mul_letter hc hyb
    have hd : 17 - k = (17 - (k + 1)) + 1 := by omega
    rw [hd, ledF, hy] at hled
    dsimp only at hled
    refine wpAny_execs_cons (wpAny_AugAssign_Name (ldn (v := .str ⟨wl.toArray⟩ tw) Fk (by walk_at "lk") (wpAny_BinOp (ld (v := .str ⟨#[c]⟩ tc) Fk (by walk_at "lk") (ld (v := .int y t) Fk (by walk_at "lk") (SB.mul ok fun t' tk' => ?_ ))))))
    rw [em]
    refine PyProof.Rows.iadd_str (fun t'' tk'' => ?_) ?_
    rotate_left
    · rw [sizeLine_eq]; show wl.toArray.size + (List.replicate y.toNat c).toArray.size ≤ _
      rw [List.size_toArray, List.size_toArray, List.length_replicate]; omega
    rw [app_flat]
    have hnl : (wl ++ List.replicate y.toNat c).length = wl.length + y.toNat := by simp
    generalize wl ++ List.replicate y.toNat c = wn at hled hnl ⊢
    refine stU Fk Nk fun h₆ F₆ N₆ S₆ => ?_
    dsimp only at S₆ ⊢
    have W₆ := W.keeps F₆.keep
    refine wpAny_execs_cons (wpAny_If (wpAny_isTrue_Compare1 (Call_ (ldB W₆ boot_len (cwB (args_cons (ld (v := .str ⟨wn.toArray⟩ t'') F₆ (by walk_at "lk") (args_nil (PyProof.Rows.len_str ?_ (wpAny_Constant_int (gt_int (wpAny_truthy_bool ?_ ))))))))))))
    · show ¬ ((wn.toArray.size : Nat) : Int) ≥ 2 ^ 63
      rw [List.size_toArray]; omega
    have el : (Str.length ⟨wn.toArray⟩) = wn.length := by show wn.toArray.size = _; rw [List.size_toArray]
    rw [el]
    by_cases hlt : wn.length > 15
    · rw [if_pos hlt] at hled
      rw [if_pos (by simp; omega)]
      refine wpAny_execs_cons (wpAny_Return_some (Subscript_ (ld (v := .str ⟨wn.toArray⟩ t'') F₆ (by walk_at "lk") (wpAny_Slice (wpAny_evalPart_none (wpAny_evalPart_some (wpAny_Constant_int (wpAny_evalPart_none ?_ ))))))))
      refine slice_str_ns (s := { s with heap := h₆, toks := _, gens := gg }) F₆ (fun h₇ t₇ k₇ F₇ => ?_) (hsz := by rw [el, sizeLine_eq]; omega)
      rw [take_16 (by omega), hled]
      exact hR h₇ _ _ _ F₇.keep hbk
    · rw [if_neg hlt] at hled
      rw [if_neg (by simp; omega)]
      refine wpAny_execs_nil ?_
      refine wpAny_execs_cons (wpAny_Assign_Name (IfExp_ (wpAny_isTrue_Compare1 (ld (v := .str ⟨#[c]⟩ tc) F₆ (by walk_at "lk") (wpAny_Constant_str (eq_str (wpAny_truthy_bool ?_ )))))))
      rcases hc with rfl | rfl
      · rw [if_pos (by decide)]
        rw [if_pos rfl] at hled
        refine wpAny_Constant_str (stU F₆ N₆ fun h₇ F₇ N₇ S₇ => wpAny_execs_nil ?_)
        exact ⟨h₇, _, gg, _, [], rfl, F₇, N₇, ⟨⟨wn, 76, _, _, up_of up_eq, up_eq, .inr rfl, rfl, by omega, by omega, hled⟩, by omega, rfl⟩, (fun p hp => by cases hp), fun b o h1 h2 e => S₇.extBut b o h1 (S₆.extBut b o h1 e)⟩
      · rw [if_neg (by decide)]
        rw [if_neg (by decide)] at hled
        refine wpAny_Constant_str (stU F₆ N₆ fun h₇ F₇ N₇ S₇ => wpAny_execs_nil ?_)
        exact ⟨h₇, _, gg, _, [], rfl, F₇, N₇, ⟨⟨wn, 82, _, _, up_of up_eq, up_eq, .inl rfl, rfl, by omega, by omega, hled⟩, by omega, rfl⟩, (fun p hp => by cases hp), fun b o h1 h2 e => S₇.extBut b o h1 (S₆.extBut b o h1 e)⟩
  · rintro k m₁ nx h' tk gg hy ⟨wl, c, tw, tc, hm1, hm2, hc, rfl, hkl, hwl, hled⟩ Fk Nk hbk
    dsimp only
    have hd : 17 - k = (17 - (k + 1)) + 1 := by omega
    rw [hd, ledF, hy] at hled
    dsimp only at hled
    refine wpAny_execs_cons (wpAny_Return_some (wpAny_BinOp (ld (v := .str ⟨wl.toArray⟩ tw) Fk hm1 (wpAny_Constant_str ?_))))
    refine PyProof.Rows.add_str (fun t' tk' => ?_) ?_
    · rw [snoc_M, hled]
      exact hR h' _ _ _ Fk.keep hbk
    · rw [sizeLine_eq]; show wl.toArray.size + 1 ≤ _
      rw [List.size_toArray]; omega
end
end Mine
end
section
open PySem PySem.W PyProof.Rows PySem.Calls PySem.Spec PySem.NumText
set_option maxRecDepth 100000
set_option maxHeartbeats 4000000
namespace Mine
local macro_rules | `(tactic| walk_at "lk") => `(tactic| (repeat (first | exact up_eq | assumption | refine up_of ?_ (by decide))))
def ordK (one two : List Int) : Nat → Nat → Int
  | 0, _ => 0
  | d + 1, k => if one.getD k 0 ≠ two.getD k 0 then (if (decide (one.getD k 0 > two.getD k 0)) = (k != 1) then 1 else -1) else ordK one two d (k + 1)
def orderI (one two : List Int) : Int :=
  if two.length = 2 then sideI one (two.getD 0 0) (two.getD 1 0)
  else if one.length = 2 then -sideI two (one.getD 0 0) (one.getD 1 0)
  else ordK one two 3 0
section
variable {prog : Program} {w : World} {A : Around} {E : Value → Shared → Prop} {R : Result → Shared → Prop} {s : Shared} {mg mb : Str → Option Value}
theorem order_spec {f sf n1 n2 : Addr} {us vs : List Value} {one two : List Int} {k1 k2 : Nat} (hf : FnIs s.heap f "_law_order" 15) (hs : FnIs s.heap sf "_law_side" 12) (hsf : mg "_law_side" = some (.ref sf)) (W : Wd mg mb s.heap) (hroom : A.depth + 1 < recursionLimit) (hh : A.handled = none)
    (h1 : s.heap.get? n1 = some (lobj us k1)) (hi1 : IntsAre us one) (hl1 : 2 ≤ one.length ∧ one.length ≤ 10) (hb1 : ∀ y ∈ one, y.natAbs ≤ 1000)
    (h2 : s.heap.get? n2 = some (lobj vs k2)) (hi2 : IntsAre vs two) (hl2 : 2 ≤ two.length ∧ two.length ≤ 10) (hb2 : ∀ y ∈ two, y.natAbs ≤ 1000)
    (hR : ∀ h' tk t, Keep s.heap h' → R (.ok (.ret (.int (orderI one two) t))) { s with heap := h', toks := tk }) :
    codeAny (model prog w) A (.call (.ref f) ⟨[.ref n1, .ref n2], []⟩) R s := by
  refine call_fn (binds := [("one", .ref n1), ("two", .ref n2)]) hf (by omega) W.lim (fun _ _ _ => rfl) (by rfl) fun cd h₁ F => ?_
  rw [bm2] at F
  have W₁ := W.keeps F.keep
  have hul := hi1.length
  have hvl := hi2.length
  have hh' : (A.deeper (envOf "_law_order" (scpP 15) s.heap.objs.size f cd)).handled = none := hh
  have g1 : ∀ {h m'}, Fr s.heap s.heap.objs.size h m' → h.IsList n1 us.toArray := fun F => ⟨_, F.keep _ _ h1, rfl, _, rfl⟩
  have g2 : ∀ {h m'}, Fr s.heap s.heap.objs.size h m' → h.IsList n2 vs.toArray := fun F => ⟨_, F.keep _ _ h2, rfl, _, rfl⟩
  have bd1 : ∀ i, i < one.length → (one.getD i 0).natAbs ≤ 1000 := fun i h => hb1 _ (List.mem_of_getElem? (getD_some h))
  have bd2 : ∀ i, i < two.length → (two.getD i 0).natAbs ≤ 1000 := fun i h => hb2 _ (List.mem_of_getElem? (getD_some h))
  have at1 := fun i (h : i < one.length) => hi1.get i _ (getD_some h)
  have at2 := fun i (h : i < two.length) => hi2.get i _ (getD_some h)
  refine wpAny_execs_cons (wpAny_If (wpAny_isTrue_Compare1 (Call_ (ldB W₁ boot_len (cwB (args_cons (ld (v := .ref n2) F (by walk_at "lk") (args_nil (call_len_list (g2 F) ?_ (wpAny_Constant_int (eq_int (wpAny_truthy_bool ?_ ))))))))))))
  · rw [List.size_toArray]; omega
  rw [List.size_toArray, hvl]
  unfold orderI at hR
  by_cases c2 : two.length = 2
  · rw [if_pos c2] at hR
    rw [if_pos (by rw [c2]; rfl)]
    obtain ⟨t0, e0⟩ := at2 0 (by omega)
    obtain ⟨t1, e1⟩ := at2 1 (by omega)
    refine wpAny_execs_cons (wpAny_Return_some (Call_ (ldG W₁ hsf (cwF (hs.keeps F.keep) (args_cons (ld (v := .ref n1) F (by walk_at "lk") (args_cons (Subscript_ (ld (v := .ref n2) F (by walk_at "lk") (wpAny_Constant_int (sub_list (g2 F) (by omega) (by omega) e0 (args_cons (Subscript_ (ld (v := .ref n2) F (by walk_at "lk") (wpAny_Constant_int (sub_list (g2 F) (by omega) (by omega) e1 (args_nil ⟨fun _ _ e => e, side_spec (num := one) (hs.keeps F.keep) W₁ hroom (F.keep _ _ h1) hi1 hl1 hb1 (by have := bd2 0 (by omega); omega) (by have := bd2 1 (by omega); omega) ?_⟩ )))))))))))))))))
    intro h₃ tk₃ t₃ hk₃
    dsimp only [wants] at hk₃ ⊢
    exact hR h₃ _ _ (Keep.trans F.keep hk₃)
  · rw [if_neg c2] at hR
    rw [if_neg (by simp; omega)]
    refine wpAny_execs_nil ?_
    refine wpAny_execs_cons (wpAny_If (wpAny_isTrue_Compare1 (Call_ (ldB W₁ boot_len (cwB (args_cons (ld (v := .ref n1) F (by walk_at "lk") (args_nil (call_len_list (g1 F) ?_ (wpAny_Constant_int (eq_int (wpAny_truthy_bool ?_ ))))))))))))
    · rw [List.size_toArray]; omega
    rw [List.size_toArray, hul]
    by_cases c1 : one.length = 2
    · rw [if_pos c1] at hR
      rw [if_pos (by rw [c1]; rfl)]
      obtain ⟨t0, e0⟩ := at1 0 (by omega)
      obtain ⟨t1, e1⟩ := at1 1 (by omega)
      refine wpAny_execs_cons (wpAny_Return_some (UnaryOp_ (Call_ (ldG W₁ hsf (cwF (hs.keeps F.keep) (args_cons (ld (v := .ref n2) F (by walk_at "lk") (args_cons (Subscript_ (ld (v := .ref n1) F (by walk_at "lk") (wpAny_Constant_int (sub_list (g1 F) (by omega) (by omega) e0 (args_cons (Subscript_ (ld (v := .ref n1) F (by walk_at "lk") (wpAny_Constant_int (sub_list (g1 F) (by omega) (by omega) e1 (args_nil ⟨fun _ _ e => e, side_spec (num := two) (hs.keeps F.keep) W₁ hroom (F.keep _ _ h2) hi2 hl2 hb2 (by have := bd1 0 (by omega); omega) (by have := bd1 1 (by omega); omega) ?_⟩ ))))))))))))))))))
      intro h₃ tk₃ t₃ hk₃
      dsimp only [wants] at hk₃ ⊢
      exact neg_int (hR h₃ _ _ (Keep.trans F.keep hk₃))
    · rw [if_neg c1] at hR
      rw [if_neg (by simp; omega)]
      refine wpAny_execs_nil ?_
      have fin := hR
      refine wpAny_execs_cons (wpAny_For (Call_ (ldB W₁ boot_range (cwT (args_cons (wpAny_Constant_int (args_nil (call_range_1 ?_ ))))))))
      dsimp only
      have key : ∃ h₂ a t1 t2 t3, h₁.push { cls := .type "range", data := .fields #[.int 0 t1, .int 3 t2, .int 1 t3] } = h₂ ∧ h₁.objs.size = a := ⟨_, _, 0, 0, 0, rfl, rfl⟩
      have hrg := fun (t1 t2 t3 : Tok) => IsRange.new h₁ 0 3 1 t1 t2 t3
      generalize hr : h₁.push { cls := .type "range", data := .fields _ } = h₂
      have hk₂ : Keep h₁ h₂ := hr ▸ Keep.push _ _
      refine wpAny_pyIter_range (a := 0) (b := 3) (c := 1) (by rw [← hr]; exact IsRange.new ..) (by decide) ?_
      have hsz : Builtin.Range.rangeSize 0 3 1 = 3 := by decide
      rw [hsz]
      dsimp only
      clear hr hrg key
      have F₂ := F.after hk₂
      have hLlt : s.heap.objs.size < h₂.objs.size := F₂.ns.lt
      refine for_walk (env := envOf "_law_order" (scpP 15) s.heap.objs.size f cd) (Walks.range hh' h₂.objs.size 0 1 3) ?_
        (fun i m nx g => nx = [] ∧ g = s.gens ∧ m "one" = some (.ref n1) ∧ m "two" = some (.ref n2) ∧ i ≤ 3 ∧ ordK one two (3 - i) i = ordK one two 3 0) [] ?_ (by simp) ?_ (F₂.push _) News.nil ?_ ⟨rfl, rfl, by walk_at "lk", by walk_at "lk", by omega, rfl⟩ (by simp) ?_ ?_
      · intro i h st b hb
        exact ⟨_, (List.mem_singleton.mp hb) ▸ st⟩
      · intro q
        exact absurd (List.mem_singleton.mp q) (Nat.ne_of_lt hLlt)
      · intro b hb
        rw [List.mem_singleton.mp hb]
        exact none_of_ge (Nat.le_of_lt hLlt)
      · exact Heap.get?_push_size _ rfl
      · rintro i v m₁ nx h tk g hlt ⟨t, rfl⟩ ⟨rfl, rfl, hm1, hm2, hi3, hord⟩ Fi Ni hni hI E'
        obtain ⟨t1, e1⟩ := at1 i (by omega)
        obtain ⟨t2, e2⟩ := at2 i (by omega)
        have hv : (0 : Int) + (i : Nat) * 1 = ((i : Nat) : Int) := by omega
        rw [hv] at Fi
        have hd : 3 - i = (3 - (i + 1)) + 1 := by omega
        rw [hd, ordK] at hord
        have k1 : ∀ {m'}, Fr s.heap s.heap.objs.size h m' → ((i : Nat) : Int).toNat = i := fun _ => by omega
        generalize one.getD i 0 = x at hord e1
        generalize two.getD i 0 = y at hord e2
        refine wpAny_execs_cons (wpAny_If (wpAny_isTrue_Compare1 (Subscript_ (ld (v := .ref n1) Fi (by walk_at "lk") (ld (v := .int (i : Nat) t) Fi (by walk_at "lk") (sub_list (g1 Fi) (by omega) (by omega) (by rw [Int.toNat_natCast]; exact e1) (Subscript_ (ld (v := .ref n2) Fi (by walk_at "lk") (ld (v := .int (i : Nat) t) Fi (by walk_at "lk") (sub_list (g2 Fi) (by omega) (by omega) (by rw [Int.toNat_natCast]; exact e2) (ne_int (wpAny_truthy_bool ?_ ))))))))))))
        by_cases hxy : x = y
        · rw [if_neg (fun h => h hxy)] at hord
          rw [if_neg (by simp [hxy])]
          refine wpAny_execs_nil (wpAny_execs_nil ?_)
          exact ⟨h, tk, s.gens, _, [], rfl, Fi, Ni, ⟨rfl, rfl, by walk_at "lk", by walk_at "lk", by omega, hord⟩, by simp, fun b o _ _ e => e⟩
        · rw [if_pos hxy] at hord
          rw [if_pos (by simp [hxy])]
          refine wpAny_execs_cons (wpAny_Return_some (IfExp_ (wpAny_isTrue_Compare1 (wpAny_Compare1 (Subscript_ (ld (v := .ref n1) Fi (by walk_at "lk") (ld (v := .int (i : Nat) t) Fi (by walk_at "lk") (sub_list (g1 Fi) (by omega) (by omega) (by rw [Int.toNat_natCast]; exact e1) (Subscript_ (ld (v := .ref n2) Fi (by walk_at "lk") (ld (v := .int (i : Nat) t) Fi (by walk_at "lk") (sub_list (g2 Fi) (by omega) (by omega) (by rw [Int.toNat_natCast]; exact e2) (gt_int ?_ )))))))))))))
          refine wpAny_Compare1 (ld (v := .int (i : Nat) t) Fi (by walk_at "lk") (wpAny_Constant_int (ne_int (eq_bool (wpAny_truthy_bool ?_ )))))
          have en : (((i : Nat) : Int) != 1) = (i != 1) := by
            rcases (show i = 0 ∨ i = 1 ∨ i = 2 by omega) with rfl | rfl | rfl <;> rfl
          rw [en]
          by_cases hc : decide (x > y) = (i != 1)
          · rw [if_pos hc] at hord
            rw [if_pos (by rw [hc]; simp)]
            rw [← hord] at hR
            exact wpAny_Constant_int (hR h _ _ Fi.keep)
          · rw [if_neg hc] at hord
            rw [if_neg (by simpa using hc)]
            rw [← hord] at hR
            exact UnaryOp_ (wpAny_Constant_int (neg_int (hR h _ _ Fi.keep)))
      · rintro m₁ nx h tk g ⟨rfl, rfl, hm1, hm2, hi3, hord⟩ Fi Ni _
        dsimp only
        refine wpAny_execs_cons (wpAny_Return_some (wpAny_Constant_int ?_))
        have : ordK one two 0 3 = 0 := rfl
        rw [show ordK one two (3 - 3) 3 = 0 from rfl] at hord
        rw [← hord] at hR
        exact hR h _ _ Fi.keep
end
end Mine
end
section
open PySem PySem.W PyProof.Rows PySem.Calls PySem.Spec PySem.NumText
set_option maxRecDepth 100000
set_option maxHeartbeats 4000000
namespace Mine
/-- a text as a number, n places -/
def encN : Nat → List Nat → Nat
  | 0, _ => 0
  | _ + 1, [] => 0
  | n + 1, c :: r => c * 128 ^ n + encN n r
theorem encN_lt (n : Nat) : ∀ w : List Nat, (∀ c ∈ w, c < 128) → encN n w < 128 ^ n := by
  induction n with
  | zero => intro w _; simp [encN]
  | succ n ih =>
    intro w h
    cases w with
    | nil => simp only [encN]; exact Nat.pow_pos (by omega)
    | cons c r =>
      have h1 := h c (.head _)
      have h2 := ih r fun x hx => h x (.tail _ hx)
      have h3 : c * 128 ^ n ≤ 127 * 128 ^ n := Nat.mul_le_mul_right _ (by omega)
      simp only [encN, Nat.pow_succ]
      omega
theorem lex_enc (n : Nat) : ∀ a b : List Nat, (∀ c ∈ a, 1 ≤ c ∧ c < 128) → (∀ c ∈ b, 1 ≤ c ∧ c < 128) → a.length ≤ n → b.length ≤ n → (a < b ↔ encN n a < encN n b) := by
  induction n with
  | zero =>
    intro a b _ _ ha hb
    have ea : a = [] := List.length_eq_zero_iff.mp (by omega)
    have eb : b = [] := List.length_eq_zero_iff.mp (by omega)
    subst ea; subst eb
    simp [encN]
  | succ n ih =>
    intro a b ha hb la lb
    have hp : 0 < 128 ^ n := Nat.pow_pos (by omega)
    cases a with
    | nil =>
      cases b with
      | nil => simp [encN]
      | cons d t =>
        have hd := (hb d (.head _)).1
        have : 1 * 128 ^ n ≤ d * 128 ^ n := Nat.mul_le_mul_right _ hd
        simp only [encN, List.nil_lt_cons, true_iff]
        omega
    | cons c r =>
      cases b with
      | nil => simp [encN]
      | cons d t =>
        have h1 := encN_lt n r fun x hx => (ha x (.tail _ hx)).2
        have h2 := encN_lt n t fun x hx => (hb x (.tail _ hx)).2
        have ih' := ih r t (fun x hx => ha x (.tail _ hx)) (fun x hx => hb x (.tail _ hx)) (by simpa using la) (by simpa using lb)
        rw [List.cons_lt_cons_iff]
        simp only [encN]
        rcases Nat.lt_trichotomy c d with hcd | hcd | hcd
        · have h3 : (c + 1) * 128 ^ n ≤ d * 128 ^ n := Nat.mul_le_mul_right _ hcd
          rw [Nat.add_mul, Nat.one_mul] at h3
          constructor
          · intro _; omega
          · intro _; exact .inl hcd
        · subst hcd
          rw [ih']
          constructor
          · rintro (h | ⟨_, h⟩) <;> omega
          · intro h; exact .inr ⟨rfl, by omega⟩
        · have h3 : (d + 1) * 128 ^ n ≤ c * 128 ^ n := Nat.mul_le_mul_right _ hcd
          rw [Nat.add_mul, Nat.one_mul] at h3
          constructor
          · rintro (h | ⟨h, _⟩) <;> omega
          · intro _; omega
def tabF : List (List Int × Nat × Nat × Nat) := [([1, 5], 7, 6, 428875543669530724672894197492088832),
  ([1, 5, 1], 13, 11, 428875543669537337830644622366343168),
  ([1, 5, 2], 19, 16, 428875543669537389495939547560673280),
  ([1, 5, 3], 25, 21, 428875543669537389899574664163753984),
  ([1, 5, 4], 31, 26, 428875543669537389902728063512215552),
  ([1, 5, 5], 37, 31, 428875543669537389902752699444625408),
  ([1, 4], 6, 5, 428875543669590934845550785468563456),
  ([1, 4, 1], 11, 9, 428875543670437419037605169373118464),
  ([1, 4, 2], 16, 13, 428875543670444032195355594247372800),
  ([1, 4, 3], 21, 17, 428875543670444083860650519441702912),
  ([1, 4, 4], 26, 21, 428875543670444084264285636044783616),
  ([1, 4, 5], 31, 25, 428875543670444084267439035393245184),
  ([1, 3], 5, 4, 428875543677297836945594046457315328),
  ([1, 3, 1], 9, 7, 428875543785647813528555186240356352),
  ([1, 3, 2], 13, 10, 428875543786494297720609570144911360),
  ([1, 3, 3], 17, 13, 428875543786500910878359995019165696),
  ([1, 3, 4], 21, 16, 428875543786500962543654920213495808),
  ([1, 3, 5], 25, 19, 428875543786500962947290036816576512),
  ([1, 2], 4, 3, 428875544663781305751131453017554944),
  ([1, 2, 1], 7, 5, 428875558532578308370157345246806016),
  ([1, 2, 2], 10, 7, 428875558640928284953118485029847040),
  ([1, 2, 3], 13, 9, 428875558641774769145172868934402048),
  ([1, 2, 4], 16, 11, 428875558641781382302923293808656384),
  ([1, 2, 5], 19, 13, 428875558641781433968218219002986496),
  ([1, 1], 3, 2, 428875670933665312859919492728225792),
  ([1, 1, 1], 5, 3, 428877446139681648095233698072363008),
  ([1, 1, 2], 7, 4, 428877460008478650714259590301614080),
  ([1, 1, 3], 9, 5, 428877460116828627297220730084655104),
  ([1, 1, 4], 11, 6, 428877460117675111489275113989210112),
  ([1, 1, 5], 13, 7, 428877460117681724647025538863464448),
  ([1], 2, 1, 428891833478818222784788575694094336),
  ([2, 5], 13, 6, 429118932584774074326007684913954816),
  ([2, 5, 1], 24, 11, 429118932584774125991302610108284928),
  ([2, 5, 2], 35, 16, 429118932584774126394937726711365632),
  ([2, 5, 3], 46, 21, 429118932584774126398091126059827200),
  ([2, 5, 4], 57, 26, 429118932584774126398115761992237056),
  ([2, 5, 5], 68, 31, 429118932584774126398115954460459008),
  ([2, 4], 11, 5, 429118932584774544717981564507521024),
  ([2, 4, 1], 20, 9, 429118932584781157875731989381775360),
  ([2, 4, 2], 29, 13, 429118932584781209541026914576105472),
  ([2, 4, 3], 38, 17, 429118932584781209944662031179186176),
  ([2, 4, 4], 47, 21, 429118932584781209947815430527647744),
  ([2, 4, 5], 56, 25, 429118932584781209947840066460057600),
  ([2, 3], 9, 4, 429118932584834754890638152483995648),
  ([2, 3, 1], 16, 7, 429118932585681239082692536388550656),
  ([2, 3, 2], 23, 10, 429118932585687852240442961262804992),
  ([2, 3, 3], 30, 13, 429118932585687903905737886457135104),
  ([2, 3, 4], 37, 16, 429118932585687904309373003060215808),
  ([2, 3, 5], 44, 19, 429118932585687904312526402408677376),
  ([2, 2], 7, 3, 429118932592541656990681413472747520),
  ([2, 2, 1], 12, 5, 429118932700891633573642553255788544),
  ([2, 2, 2], 17, 7, 429118932701738117765696937160343552),
  ([2, 2, 3], 22, 9, 429118932701744730923447362034597888),
  ([2, 2, 4], 27, 11, 429118932701744782588742287228928000),
  ([2, 2, 5], 32, 13, 429118932701744782992377403832008704),
  ([2, 1], 5, 2, 429118933579025125796218820032987136),
  ([2, 1, 1], 8, 3, 429118947447822128415244712262238208),
  ([2, 1, 2], 11, 4, 429118947556172104998205852045279232),
  ([2, 1, 3], 14, 5, 429118947557018589190260235949834240),
  ([2, 1, 4], 17, 6, 429118947557025202348010660824088576),
  ([2, 1, 5], 20, 7, 429118947557025254013305586018418688),
  ([2], 3, 1, 429119059848909132905006859743657984),
  ([3, 5], 19, 6, 429120834060674412995172634034438144),
  ([3, 5, 1], 35, 11, 429120834060674413398807750637518848),
  ([3, 5, 2], 51, 16, 429120834060674413401961149985980416),
  ([3, 5, 3], 67, 21, 429120834060674413401985785918390272),
  ([3, 5, 4], 83, 26, 429120834060674413401985978386612224),
  ([3, 5, 5], 99, 31, 429120834060674413401985979890270208),
  ([3, 4], 16, 5, 429120834060674416670109929968762880),
  ([3, 4, 1], 29, 9, 429120834060674468335404855163092992),
  ([3, 4, 2], 42, 13, 429120834060674468739039971766173696),
  ([3, 4, 3], 55, 17, 429120834060674468742193371114635264),
  ([3, 4, 4], 68, 21, 429120834060674468742218007047045120),
  ([3, 4, 5], 81, 25, 429120834060674468742218199515267072),
  ([3, 3], 13, 4, 429120834060674887062083809562329088),
  ([3, 3, 1], 23, 7, 429120834060681500219834234436583424),
  ([3, 3, 2], 33, 10, 429120834060681551885129159630913536),
  ([3, 3, 3], 43, 13, 429120834060681552288764276233994240),
  ([3, 3, 4], 53, 16, 429120834060681552291917675582455808),
  ([3, 3, 5], 63, 19, 429120834060681552291942311514865664),
  ([3, 2], 10, 3, 429120834060735097234740397538803712),
  ([3, 2, 1], 17, 5, 429120834061581581426794781443358720),
  ([3, 2, 2], 24, 7, 429120834061588194584545206317613056),
  ([3, 2, 3], 31, 9, 429120834061588246249840131511943168),
  ([3, 2, 4], 38, 11, 429120834061588246653475248115023872),
  ([3, 2, 5], 45, 13, 429120834061588246656628647463485440),
  ([3, 1], 7, 2, 429120834068441999334783658527555584),
  ([3, 1, 1], 11, 3, 429120834176791975917744798310596608),
  ([3, 1, 2], 15, 4, 429120834177638460109799182215151616),
  ([3, 1, 3], 19, 5, 429120834177645073267549607089405952),
  ([3, 1, 4], 23, 6, 429120834177645124932844532283736064),
  ([3, 1, 5], 27, 7, 429120834177645125336479648886816768),
  ([3], 4, 1, 429120835054925468140321065087795200),
  ([4, 5], 25, 6, 429120848915954884391025485199441920),
  ([4, 5, 1], 46, 11, 429120848915954884394178884547903488),
  ([4, 5, 2], 67, 16, 429120848915954884394203520480313344),
  ([4, 5, 3], 88, 21, 429120848915954884394203712948535296),
  ([4, 5, 4], 109, 26, 429120848915954884394203714452193280),
  ([4, 5, 5], 130, 31, 429120848915954884394203714463940608),
  ([4, 4], 21, 5, 429120848915954884419735932823928832),
  ([4, 4, 1], 38, 9, 429120848915954884823371049427009536),
  ([4, 4, 2], 55, 13, 429120848915954884826524448775471104),
  ([4, 4, 3], 72, 17, 429120848915954884826549084707880960),
  ([4, 4, 4], 89, 21, 429120848915954884826549277176102912),
  ([4, 4, 5], 106, 25, 429120848915954884826549278679760896),
  ([4, 3], 17, 4, 429120848915954888094673228758253568),
  ([4, 3, 1], 30, 7, 429120848915954939759968153952583680),
  ([4, 3, 2], 43, 10, 429120848915954940163603270555664384),
  ([4, 3, 3], 56, 13, 429120848915954940166756669904125952),
  ([4, 3, 4], 69, 16, 429120848915954940166781305836535808),
  ([4, 3, 5], 82, 19, 429120848915954940166781498304757760),
  ([4, 2], 13, 3, 429120848915955358486647108351819776),
  ([4, 2, 1], 22, 5, 429120848915961971644397533226074112),
  ([4, 2, 2], 31, 7, 429120848915962023309692458420404224),
  ([4, 2, 3], 40, 9, 429120848915962023713327575023484928),
  ([4, 2, 4], 49, 11, 429120848915962023716480974371946496),
  ([4, 2, 5], 58, 13, 429120848915962023716505610304356352),
  ([4, 1], 9, 2, 429120848916015568659303696328294400),
  ([4, 1, 1], 14, 3, 429120848916862052851358080232849408),
  ([4, 1, 2], 19, 4, 429120848916868666009108505107103744),
  ([4, 1, 3], 24, 5, 429120848916868717674403430301433856),
  ([4, 1, 4], 29, 6, 429120848916868718078038546904514560),
  ([4, 1, 5], 34, 7, 429120848916868718081191946252976128),
  ([4], 5, 1, 429120848923722470759346957317046272),
  ([5, 5], 31, 6, 429120849032011763073805585599168512),
  ([5, 5, 1], 57, 11, 429120849032011763073830221531578368),
  ([5, 5, 2], 83, 16, 429120849032011763073830413999800320),
  ([5, 5, 3], 109, 21, 429120849032011763073830415503458304),
  ([5, 5, 4], 135, 26, 429120849032011763073830415515205632),
  ([5, 5, 5], 161, 31, 429120849032011763073830415515297408),
  ([5, 4], 26, 5, 429120849032011763074029885971234816),
  ([5, 4, 1], 47, 9, 429120849032011763077183285319696384),
  ([5, 4, 2], 68, 13, 429120849032011763077207921252106240),
  ([5, 4, 3], 89, 17, 429120849032011763077208113720328192),
  ([5, 4, 4], 110, 21, 429120849032011763077208115223986176),
  ([5, 4, 5], 131, 25, 429120849032011763077208115235733504),
  ([5, 3], 21, 4, 429120849032011763102740333595721728),
  ([5, 3, 1], 37, 7, 429120849032011763506375450198802432),
  ([5, 3, 2], 53, 10, 429120849032011763509528849547264000),
  ([5, 3, 3], 69, 13, 429120849032011763509553485479673856),
  ([5, 3, 4], 85, 16, 429120849032011763509553677947895808),
  ([5, 3, 5], 101, 19, 429120849032011763509553679451553792),
  ([5, 2], 16, 3, 429120849032011766777677629530046464),
  ([5, 2, 1], 27, 5, 429120849032011818442972554724376576),
  ([5, 2, 2], 38, 7, 429120849032011818846607671327457280),
  ([5, 2, 3], 49, 9, 429120849032011818849761070675918848),
  ([5, 2, 4], 60, 11, 429120849032011818849785706608328704),
  ([5, 2, 5], 71, 13, 429120849032011818849785899076550656),
  ([5, 1], 11, 2, 429120849032012237169651509123612672),
  ([5, 1, 1], 17, 3, 429120849032018850327401933997867008),
  ([5, 1, 2], 23, 4, 429120849032018901992696859192197120),
  ([5, 1, 3], 29, 5, 429120849032018902396331975795277824),
  ([5, 1, 4], 35, 6, 429120849032018902399485375143739392),
  ([5, 1, 5], 41, 7, 429120849032018902399510011076149248),
  ([5], 6, 1, 429120849032072447342308097100087296)]
def tabR : List (Nat × Nat × Nat × Nat) := [(1, 5, 1, 428875543669537334559142766408148480),
  (1, 5, 2, 428875543669537389467029627857053952),
  (1, 5, 3, 428875543669537389899348599270319616),
  (1, 5, 4, 428875543669537389902726297367652608),
  (1, 5, 5, 428875543669537389902752685646620160),
  (1, 4, 1, 428875543670437000285367606724208896),
  (1, 4, 2, 428875543670444028494885872184108544),
  (1, 4, 3, 428875543670444083831714213082113536),
  (1, 4, 4, 428875543670444084264059569540737280),
  (1, 4, 5, 428875543670444084267437269248583936),
  (1, 3, 1, 428875543785594213242147167179941376),
  (1, 3, 2, 428875543786493824060485146047096320),
  (1, 3, 3, 428875543786500907174512780991735296),
  (1, 3, 4, 428875543786500962514718407695575296),
  (1, 3, 5, 428875543786500962947063970299947264),
  (1, 2, 1, 428875558525717471709930905513699584),
  (1, 2, 2, 428875558640867656457192200509532416),
  (1, 2, 3, 428875558641774295052729473423321344),
  (1, 2, 4, 428875558641781378599049691514840576),
  (1, 2, 5, 428875558641781433939281704874453248),
  (1, 1, 1, 428877445261494555586249412234749440),
  (1, 1, 2, 428877460000718203235695171701352704),
  (1, 1, 3, 428877460116767943464466104666335488),
  (1, 1, 4, 428877460117674637393454020380796416),
  (1, 1, 5, 428877460117681720943151730411219200),
  (2, 5, 1, 429118932584774125965744001858611456),
  (2, 5, 2, 429118932584774126394711867963681024),
  (2, 5, 3, 429118932584774126398089359927847168),
  (2, 5, 4, 429118932584774126398115748194232576),
  (2, 5, 5, 429118932584774126398115954352662016),
  (2, 4, 1, 429118932584781154604230133423580672),
  (2, 4, 2, 429118932584781209512116994872486144),
  (2, 4, 3, 429118932584781209944435966285751808),
  (2, 4, 4, 429118932584781209947813664383084800),
  (2, 4, 5, 429118932584781209947840052662052352),
  (2, 3, 1, 429118932585680820330454973739641088),
  (2, 3, 2, 429118932585687848539973239199540736),
  (2, 3, 3, 429118932585687903876801580097545728),
  (2, 3, 4, 429118932585687904309146936556169472),
  (2, 3, 5, 429118932585687904312524636264016128),
  (2, 2, 1, 429118932700838033287234534195373568),
  (2, 2, 2, 429118932701737644105572513062528512),
  (2, 2, 3, 429118932701744727219600148007167488),
  (2, 2, 4, 429118932701744782559805774711007488),
  (2, 2, 5, 429118932701744782992151337315379456),
  (2, 1, 1, 429118947440961291755018272529131776),
  (2, 1, 2, 429118947556111476502279567524964608),
  (2, 1, 3, 429118947557018115097816840438753536),
  (2, 1, 4, 429118947557025198644137058530272768),
  (2, 1, 5, 429118947557025253984369071889885440),
  (3, 5, 1, 429120834060674413398608074010568192),
  (3, 5, 2, 429120834060674413401959385464514048),
  (3, 5, 3, 429120834060674413401985772120484096),
  (3, 5, 4, 429120834060674413401985978278815232),
  (3, 5, 5, 429120834060674413401985979889427968),
  (3, 4, 1, 429120834060674468309846246913419520),
  (3, 4, 2, 429120834060674468738814113018489088),
  (3, 4, 3, 429120834060674468742191604982655232),
  (3, 4, 4, 429120834060674468742217993249040640),
  (3, 4, 5, 429120834060674468742218199407470080),
  (3, 3, 1, 429120834060681496948332378478388736),
  (3, 3, 2, 429120834060681551856219239927294208),
  (3, 3, 3, 429120834060681552288538211340559872),
  (3, 3, 4, 429120834060681552291915909437892864),
  (3, 3, 5, 429120834060681552291942297716860416),
  (3, 2, 1, 429120834061581162674557218794449152),
  (3, 2, 2, 429120834061588190884075484254348800),
  (3, 2, 3, 429120834061588246220903825152353792),
  (3, 2, 4, 429120834061588246653249181610977536),
  (3, 2, 5, 429120834061588246656626881318824192),
  (3, 1, 1, 429120834176738375631336779250181632),
  (3, 1, 2, 429120834177637986449674758117336576),
  (3, 1, 3, 429120834177645069563702393061975552),
  (3, 1, 4, 429120834177645124903908019765815552),
  (3, 1, 5, 429120834177645125336253582370187520),
  (4, 5, 1, 429120848915954884394177324574255360),
  (4, 5, 2, 429120848915954884394203506694989312),
  (4, 5, 3, 429120848915954884394203712840739072),
  (4, 5, 4, 429120848915954884394203714451351040),
  (4, 5, 5, 429120848915954884394203714463933952),
  (4, 4, 1, 429120848915954884823171372800058880),
  (4, 4, 2, 429120848915954884826522684254004736),
  (4, 4, 3, 429120848915954884826549070909974784),
  (4, 4, 4, 429120848915954884826549277068305920),
  (4, 4, 5, 429120848915954884826549278678918656),
  (4, 3, 1, 429120848915954939734409545702910208),
  (4, 3, 2, 429120848915954940163377411807979776),
  (4, 3, 3, 429120848915954940166754903772145920),
  (4, 3, 4, 429120848915954940166781292038531328),
  (4, 3, 5, 429120848915954940166781498196960768),
  (4, 2, 1, 429120848915961968372895677267879424),
  (4, 2, 2, 429120848915962023280782538716784896),
  (4, 2, 3, 429120848915962023713101510130050560),
  (4, 2, 4, 429120848915962023716479208227383552),
  (4, 2, 5, 429120848915962023716505596506351104),
  (4, 1, 1, 429120848916861634099120517583939840),
  (4, 1, 2, 429120848916868662308638783043839488),
  (4, 1, 3, 429120848916868717645467123941844480),
  (4, 1, 4, 429120848916868718077812480400468224),
  (4, 1, 5, 429120848916868718081190180108314880),
  (5, 5, 1, 429120849032011763073830209344284160),
  (5, 5, 2, 429120849032011763073830413892102400),
  (5, 5, 3, 429120849032011763073830415502616064),
  (5, 5, 4, 429120849032011763073830415515198976),
  (5, 5, 5, 429120849032011763073830415515297280),
  (5, 4, 1, 429120849032011763077181725346048256),
  (5, 4, 2, 429120849032011763077207907466782208),
  (5, 4, 3, 429120849032011763077208113612531968),
  (5, 4, 4, 429120849032011763077208115223143936),
  (5, 4, 5, 429120849032011763077208115235726848),
  (5, 3, 1, 429120849032011763506175773571851776),
  (5, 3, 2, 429120849032011763509527085025797632),
  (5, 3, 3, 429120849032011763509553471681767680),
  (5, 3, 4, 429120849032011763509553677840098816),
  (5, 3, 5, 429120849032011763509553679450711552),
  (5, 2, 1, 429120849032011818417413946474703104),
  (5, 2, 2, 429120849032011818846381812579772672),
  (5, 2, 3, 429120849032011818849759304543938816),
  (5, 2, 4, 429120849032011818849785692810324224),
  (5, 2, 5, 429120849032011818849785898968753664),
  (5, 1, 1, 429120849032018847055900078039672320),
  (5, 1, 2, 429120849032018901963786939488577792),
  (5, 1, 3, 429120849032018902396105910901843456),
  (5, 1, 4, 429120849032018902399483608999176448),
  (5, 1, 5, 429120849032018902399509997278144000)]
def okF (r : List Int × Nat × Nat × Nat) : Bool := decide (cfL r.1 = ((r.2.1 : Int), (r.2.2.1 : Int))) && Nat.beq (encN 17 (wayI [(r.2.1 : Int), (r.2.2.1 : Int)])) r.2.2.2
theorem tabF_ok : tabF.all okF = true := by decide +kernel
def sortF : List (List Int × Nat × Nat × Nat) → Bool
  | [] => true
  | [p] => Nat.blt 0 p.2.2.1
  | p :: q :: r => Nat.blt 0 p.2.2.1 && Nat.blt p.2.2.2 q.2.2.2 && Nat.blt (p.2.1 * q.2.2.1) (q.2.1 * p.2.2.1) && sortF (q :: r)
theorem tabF_sort : sortF tabF = true := by decide +kernel
def keyR (r : Nat × Nat × Nat × Nat) : Nat := r.1 * 36 + (6 - r.2.1) * 6 + r.2.2.1
def sortR : List (Nat × Nat × Nat × Nat) → Bool
  | [] => true
  | [p] => true
  | p :: q :: r => Nat.blt p.2.2.2 q.2.2.2 && Nat.blt (keyR p) (keyR q) && sortR (q :: r)
theorem tabR_sort : sortR tabR = true := by decide +kernel
def sideN (a b c u l : Nat) : Bool := Nat.ble u (a * l) || (Nat.blt (b * (u - a * l)) l && Nat.blt ((u - a * l) * (u - a * l)) ((l - b * (u - a * l)) * (l - b * (u - a * l) + c * (u - a * l))))
def okFR (r : Nat × Nat × Nat × Nat) (f : List Int × Nat × Nat × Nat) : Bool := if sideN r.1 r.2.1 r.2.2.1 f.2.1 f.2.2.1 then Nat.blt f.2.2.2 r.2.2.2 else Nat.blt r.2.2.2 f.2.2.2
theorem tabFR_0 : ((tabR.drop 0).take 25).all (fun r => tabF.all fun f => okFR r f) = true := by decide +kernel
theorem tabFR_1 : ((tabR.drop 25).take 25).all (fun r => tabF.all fun f => okFR r f) = true := by decide +kernel
theorem tabFR_2 : ((tabR.drop 50).take 25).all (fun r => tabF.all fun f => okFR r f) = true := by decide +kernel
theorem tabFR_3 : ((tabR.drop 75).take 25).all (fun r => tabF.all fun f => okFR r f) = true := by decide +kernel
theorem tabFR_4 : ((tabR.drop 100).take 25).all (fun r => tabF.all fun f => okFR r f) = true := by decide +kernel
def szA (a : Int) : List (List Int) := [a] :: [1, 2, 3, 4, 5].flatMap fun b => [a, b] :: [1, 2, 3, 4, 5].map fun c => [a, b, c]
def allSz : List (List Int) := [1, 2, 3, 4, 5].flatMap szA
theorem all_sz {P : List Int → Bool} (h1 : (szA 1).all P = true) (h2 : (szA 2).all P = true) (h3 : (szA 3).all P = true) (h4 : (szA 4).all P = true) (h5 : (szA 5).all P = true) : allSz.all P = true := by
  refine List.all_eq_true.mpr fun l hl => ?_
  obtain ⟨a, ha, hl⟩ := List.mem_flatMap.mp hl
  simp only [List.mem_cons, List.not_mem_nil, or_false] at ha
  rcases ha with rfl | rfl | rfl | rfl | rfl
  · exact List.all_eq_true.mp h1 l hl
  · exact List.all_eq_true.mp h2 l hl
  · exact List.all_eq_true.mp h3 l hl
  · exact List.all_eq_true.mp h4 l hl
  · exact List.all_eq_true.mp h5 l hl
def okR (l : List Int) (r : Nat × Nat × Nat × Nat) : Bool := decide (l.getD 0 0 = (r.1 : Int)) && (decide (l.getD 1 0 = (r.2.1 : Int)) && (decide (l.getD 2 0 = (r.2.2.1 : Int)) && Nat.beq (encN 17 (wayI l)) r.2.2.2))
def tailE (e : Int) : List Int := if e = 0 then [0, 4] else if e = 1 then [127, 2] else []
def inF (l : List Int) : Bool := tabF.any fun r => r.1 == l
def inR (l : List Int) : Bool := tabR.any fun r => okR (l ++ [lastI l, lastI l]) r
def okL (l : List Int) : Bool := [0, 1, 2].all fun e => decide (ledI (l ++ tailE e) = wayI (numI l e))
def okN (l : List Int) : Bool := [0, 1].all fun e => (numI l e).all (fun y => decide (y.natAbs ≤ 1000)) && decide (2 ≤ (numI l e).length ∧ (numI l e).length ≤ 10)
theorem tabF_all_1 : (szA 1).all inF = true := by decide +kernel
theorem tabF_all_2 : (szA 2).all inF = true := by decide +kernel
theorem tabF_all_3 : (szA 3).all inF = true := by decide +kernel
theorem tabF_all_4 : (szA 4).all inF = true := by decide +kernel
theorem tabF_all_5 : (szA 5).all inF = true := by decide +kernel
theorem tabF_all : allSz.all inF = true := all_sz tabF_all_1 tabF_all_2 tabF_all_3 tabF_all_4 tabF_all_5
theorem tabR_all_1 : (szA 1).all inR = true := by decide +kernel
theorem tabR_all_2 : (szA 2).all inR = true := by decide +kernel
theorem tabR_all_3 : (szA 3).all inR = true := by decide +kernel
theorem tabR_all_4 : (szA 4).all inR = true := by decide +kernel
theorem tabR_all_5 : (szA 5).all inR = true := by decide +kernel
theorem tabR_all : allSz.all inR = true := all_sz tabR_all_1 tabR_all_2 tabR_all_3 tabR_all_4 tabR_all_5
theorem led_all_1 : (szA 1).all okL = true := by decide +kernel
theorem led_all_2 : (szA 2).all okL = true := by decide +kernel
theorem led_all_3 : (szA 3).all okL = true := by decide +kernel
theorem led_all_4 : (szA 4).all okL = true := by decide +kernel
theorem led_all_5 : (szA 5).all okL = true := by decide +kernel
theorem led_all : allSz.all okL = true := all_sz led_all_1 led_all_2 led_all_3 led_all_4 led_all_5
theorem num_all_1 : (szA 1).all okN = true := by decide +kernel
theorem num_all_2 : (szA 2).all okN = true := by decide +kernel
theorem num_all_3 : (szA 3).all okN = true := by decide +kernel
theorem num_all_4 : (szA 4).all okN = true := by decide +kernel
theorem num_all_5 : (szA 5).all okN = true := by decide +kernel
theorem num_all : allSz.all okN = true := all_sz num_all_1 num_all_2 num_all_3 num_all_4 num_all_5
theorem tabR_bd : tabR.all (fun r => decide (1 ≤ r.1 ∧ r.1 ≤ 5 ∧ 1 ≤ r.2.1 ∧ r.2.1 ≤ 5 ∧ 1 ≤ r.2.2.1 ∧ r.2.2.1 ≤ 5)) = true := by decide +kernel
end Mine
end
section
open PySem PySem.W PyProof.Rows PySem.Calls PySem.Spec PySem.NumText
set_option maxRecDepth 100000
set_option maxHeartbeats 4000000
namespace Mine
theorem sz_in {l : List Int} (h1 : 1 ≤ l.length ∧ l.length ≤ 3) (h2 : ∀ y ∈ l, 1 ≤ y ∧ y ≤ 5) : l ∈ allSz := by
  have mem : ∀ {a : Int}, 1 ≤ a ∧ a ≤ 5 → a ∈ [1, 2, 3, 4, 5] := fun {a} h => by
    rcases (show a = 1 ∨ a = 2 ∨ a = 3 ∨ a = 4 ∨ a = 5 by omega) with rfl | rfl | rfl | rfl | rfl <;> decide
  unfold allSz
  match l, h1, h2 with
  | [a], _, h => exact List.mem_flatMap.mpr ⟨a, mem (h a (.head _)), .head _⟩
  | [a, b], _, h => exact List.mem_flatMap.mpr ⟨a, mem (h a (.head _)), .tail _ (List.mem_flatMap.mpr ⟨b, mem (h b (.tail _ (.head _))), .head _⟩)⟩
  | [a, b, c], _, h => exact List.mem_flatMap.mpr ⟨a, mem (h a (.head _)), .tail _ (List.mem_flatMap.mpr ⟨b, mem (h b (.tail _ (.head _))), .tail _ (List.mem_map.mpr ⟨c, mem (h c (.tail _ (.tail _ (.head _)))), rfl⟩)⟩)⟩
theorem szs_in (x : Int) : szs x ∈ allSz := sz_in (szs_len x) (szs_mem x)
theorem endI_range (x : Int) : endI x = 0 ∨ endI x = 1 ∨ endI x = 2 := by
  have := fmod_range (x.fdiv 375) (show (0 : Int) < 3 by omega)
  unfold endI; omega
theorem num_ok (x : Int) : (∀ y ∈ numI (szs x) (endI x), y.natAbs ≤ 1000) ∧ 2 ≤ (numI (szs x) (endI x)).length ∧ (numI (szs x) (endI x)).length ≤ 10 := by
  have h := List.all_eq_true.mp num_all _ (szs_in x)
  have e : ∃ e ∈ [(0 : Int), 1], numI (szs x) (endI x) = numI (szs x) e := by
    rcases endI_range x with h | h | h
    · exact ⟨0, .head _, by rw [h]⟩
    · exact ⟨1, .tail _ (.head _), by rw [h]⟩
    · exact ⟨1, .tail _ (.head _), by rw [h]; rfl⟩
  obtain ⟨e, he, e2⟩ := e
  have h2 := List.all_eq_true.mp h e he
  rw [e2]
  simp only [Bool.and_eq_true, List.all_eq_true, decide_eq_true_eq] at h2
  exact ⟨h2.1, h2.2.1, h2.2.2⟩
theorem led_eq (x : Int) : ledI (szs x ++ tailE (endI x)) = wayI (numI (szs x) (endI x)) := by
  have h := List.all_eq_true.mp led_all _ (szs_in x)
  have he : endI x ∈ [(0 : Int), 1, 2] := by
    rcases endI_range x with h | h | h <;> rw [h] <;> decide
  exact of_decide_eq_true (List.all_eq_true.mp h _ he)
theorem wayF_ok (num : List Int) : ∀ (k : Nat) (w : List Nat) (l0 l1 r0 r1 : Int), (∀ c ∈ w, c = 76 ∨ c = 77 ∨ c = 82) → (∀ c ∈ wayF num k w l0 l1 r0 r1, c = 76 ∨ c = 77 ∨ c = 82) ∧ (wayF num k w l0 l1 r0 r1).length ≤ w.length + k := by
  intro k
  induction k with
  | zero => intro w l0 l1 r0 r1 h; exact ⟨h, Nat.le_refl _⟩
  | succ k ih =>
    intro w l0 l1 r0 r1 h
    have hs : ∀ d, (d = 76 ∨ d = 77 ∨ d = 82) → ∀ c ∈ w ++ [d], c = 76 ∨ c = 77 ∨ c = 82 := fun d hd c hc => by
      rcases List.mem_append.mp hc with hc | hc
      · exact h c hc
      · rw [List.mem_singleton.mp hc]; exact hd
    rw [wayF]
    split
    · exact ⟨hs 77 (.inr (.inl rfl)), by rw [List.length_append]; simp only [List.length_cons, List.length_nil]; omega⟩
    · split
      · obtain ⟨a, b⟩ := ih (w ++ [82]) (l0 + r0) (l1 + r1) r0 r1 (hs 82 (.inr (.inr rfl)))
        exact ⟨a, by simp at b ⊢; omega⟩
      · obtain ⟨a, b⟩ := ih (w ++ [76]) l0 l1 (l0 + r0) (l1 + r1) (hs 76 (.inl rfl))
        exact ⟨a, by simp at b ⊢; omega⟩
theorem wayI_ok (num : List Int) : (∀ c ∈ wayI num, 1 ≤ c ∧ c < 128) ∧ (wayI num).length ≤ 17 := by
  obtain ⟨a, b⟩ := wayF_ok num 16 [] 0 1 1 0 (by simp)
  refine ⟨fun c hc => ?_, ?_⟩
  · rcases a c hc with h | h | h <;> omega
  · have : (wayI num).length ≤ ([] : List Nat).length + 16 := b
    simp at this; omega
def sgW (a b : Nat) : Int := if b < a then 1 else if a < b then -1 else 0
theorem sg_way (n1 n2 : List Int) : b2i (decide (wayI n2 < wayI n1)) - b2i (decide (wayI n1 < wayI n2)) = sgW (encN 17 (wayI n1)) (encN 17 (wayI n2)) := by
  obtain ⟨a1, b1⟩ := wayI_ok n1
  obtain ⟨a2, b2⟩ := wayI_ok n2
  have e1 := lex_enc 17 _ _ a2 a1 b2 b1
  have e2 := lex_enc 17 _ _ a1 a2 b1 b2
  unfold sgW
  by_cases h1 : encN 17 (wayI n2) < encN 17 (wayI n1)
  · rw [if_pos h1, decide_eq_true (e1.mpr h1), decide_eq_false (fun h => absurd (e2.mp h) (by omega))]; rfl
  · rw [if_neg h1, decide_eq_false (fun h => h1 (e1.mp h))]
    by_cases h2 : encN 17 (wayI n1) < encN 17 (wayI n2)
    · rw [if_pos h2, decide_eq_true (e2.mpr h2)]; rfl
    · rw [if_neg h2, decide_eq_false (fun h => h2 (e2.mp h))]; rfl
/-! a rising table -/
theorem rising {α : Type} {Rel : α → α → Prop} (trans : ∀ a b c, Rel a b → Rel b c → Rel a c) {srt : List α → Bool} (h2 : ∀ p q r, srt (p :: q :: r) = true → Rel p q ∧ srt (q :: r) = true) :
    ∀ (l : List α), srt l = true → ∀ p ∈ l, ∀ q ∈ l, p = q ∨ Rel p q ∨ Rel q p := by
  have first : ∀ (r : List α) (p : α), srt (p :: r) = true → ∀ q ∈ r, Rel p q := by
    intro r
    induction r with
    | nil => intro p _ q hq; cases hq
    | cons y r ih =>
      intro p hp q hq
      obtain ⟨a, b⟩ := h2 p y r hp
      rcases List.mem_cons.mp hq with rfl | hq
      · exact a
      · exact trans _ _ _ a (ih y b q hq)
  intro l
  induction l with
  | nil => intro _ p hp; cases hp
  | cons x r ih =>
    intro h p hp q hq
    have hr : r ≠ [] → srt r = true := fun hne => by
      cases r with
      | nil => exact absurd rfl hne
      | cons y r => exact (h2 x y r h).2
    rcases List.mem_cons.mp hp with e1 | hp'
    · rcases List.mem_cons.mp hq with e2 | hq'
      · exact .inl (e1.trans e2.symm)
      · exact .inr (.inl (by rw [e1]; exact first r x h q hq'))
    · rcases List.mem_cons.mp hq with e2 | hq'
      · exact .inr (.inr (by rw [e2]; exact first r x h p hp'))
      · exact ih (hr (fun e => by rw [e] at hp'; cases hp')) p hp' q hq'
def RelF (p q : List Int × Nat × Nat × Nat) : Prop := p.2.2.2 < q.2.2.2 ∧ p.2.1 * q.2.2.1 < q.2.1 * p.2.2.1 ∧ 0 < p.2.2.1
theorem relF_trans (a b c : List Int × Nat × Nat × Nat) (h1 : RelF a b) (h2 : RelF b c) : RelF a c := by
  obtain ⟨x1, y1, z1⟩ := h1
  obtain ⟨x2, y2, z2⟩ := h2
  refine ⟨by omega, ?_, z1⟩
  generalize a.2.1 = u1 at *
  generalize b.2.1 = u2 at *
  generalize c.2.1 = u3 at *
  generalize a.2.2.1 = l1 at *
  generalize b.2.2.1 = l2 at *
  generalize c.2.2.1 = l3 at *
  have e1 : l1 * (u2 * l3) < l1 * (u3 * l2) := Nat.mul_lt_mul_of_pos_left y2 z1
  have e2 : (u1 * l2) * l3 ≤ (u2 * l1) * l3 := Nat.mul_le_mul_right _ (Nat.le_of_lt y1)
  have e3 : l2 * (u1 * l3) < l2 * (u3 * l1) := by
    have a1 : l2 * (u1 * l3) = (u1 * l2) * l3 := by rw [Nat.mul_left_comm, Nat.mul_assoc]
    have a2 : (u2 * l1) * l3 = l1 * (u2 * l3) := by rw [Nat.mul_comm u2 l1, Nat.mul_assoc]
    have a3 : l1 * (u3 * l2) = l2 * (u3 * l1) := by rw [Nat.mul_comm u3 l2, Nat.mul_left_comm, Nat.mul_comm l1 u3]
    omega
  exact Nat.lt_of_mul_lt_mul_left e3
theorem tabF_rel : ∀ p ∈ tabF, ∀ q ∈ tabF, p = q ∨ RelF p q ∨ RelF q p := by
  refine rising relF_trans (srt := sortF) (fun p q r h => ?_) tabF tabF_sort
  simp only [sortF, Bool.and_eq_true, Nat.blt_eq] at h
  exact ⟨⟨h.1.1.2, h.1.2, h.1.1.1⟩, h.2⟩
def RelR (p q : Nat × Nat × Nat × Nat) : Prop := p.2.2.2 < q.2.2.2 ∧ keyR p < keyR q
theorem tabR_rel : ∀ p ∈ tabR, ∀ q ∈ tabR, p = q ∨ RelR p q ∨ RelR q p := by
  refine rising (fun a b c h1 h2 => ⟨Nat.lt_trans h1.1 h2.1, Nat.lt_trans h1.2 h2.2⟩) (srt := sortR) (fun p q r h => ?_) tabR tabR_sort
  simp only [sortR, Bool.and_eq_true, Nat.blt_eq] at h
  exact ⟨⟨h.1.1, h.1.2⟩, h.2⟩
theorem tabFR : ∀ r ∈ tabR, ∀ f ∈ tabF, okFR r f = true := by
  have all : ∀ (k : Nat) (l : List (Nat × Nat × Nat × Nat)), ((l.drop k).take 25).all (fun r => tabF.all fun f => okFR r f) = true → ∀ i r, k ≤ i → i < k + 25 → l[i]? = some r → ∀ f ∈ tabF, okFR r f = true := by
    intro k l h i r h1 h2 hr f hf
    have hm : r ∈ (l.drop k).take 25 := List.mem_of_getElem? (i := i - k) (by rw [List.getElem?_take_of_lt (by omega), List.getElem?_drop, show k + (i - k) = i by omega]; exact hr)
    exact List.all_eq_true.mp (List.all_eq_true.mp h r hm) f hf
  intro r hr
  obtain ⟨i, hi⟩ := List.getElem?_of_mem hr
  have hlt := (List.getElem?_eq_some_iff.mp hi).1
  have hlen : tabR.length = 125 := by decide +kernel
  rcases (show (0 ≤ i ∧ i < 0 + 25) ∨ (25 ≤ i ∧ i < 25 + 25) ∨ (50 ≤ i ∧ i < 50 + 25) ∨ (75 ≤ i ∧ i < 75 + 25) ∨ (100 ≤ i ∧ i < 100 + 25) by omega) with h | h | h | h | h
  · exact all 0 tabR tabFR_0 i r h.1 h.2 hi
  · exact all 25 tabR tabFR_1 i r h.1 h.2 hi
  · exact all 50 tabR tabFR_2 i r h.1 h.2 hi
  · exact all 75 tabR tabFR_3 i r h.1 h.2 hi
  · exact all 100 tabR tabFR_4 i r h.1 h.2 hi
end Mine
end
section
open PySem PySem.W PyProof.Rows PySem.Calls PySem.Spec PySem.NumText
set_option maxRecDepth 100000
set_option maxHeartbeats 4000000
namespace Mine
def fracOf (l : List Int) : List Int := [(cfL l).1, (cfL l).2]
def rootOf (l : List Int) : List Int := l ++ [lastI l, lastI l]
theorem frac_tab {l : List Int} (h : l ∈ allSz) : ∃ r ∈ tabF, fracOf l = [(r.2.1 : Int), (r.2.2.1 : Int)] ∧ encN 17 (wayI (fracOf l)) = r.2.2.2 := by
  obtain ⟨r, hr, e⟩ := List.any_eq_true.mp (List.all_eq_true.mp tabF_all l h)
  obtain rfl : r.1 = l := by simpa using e
  have h2 := List.all_eq_true.mp tabF_ok r hr
  simp only [okF, Bool.and_eq_true, decide_eq_true_eq] at h2
  have e1 : fracOf r.1 = [(r.2.1 : Int), (r.2.2.1 : Int)] := by unfold fracOf; rw [h2.1]
  exact ⟨r, hr, e1, by rw [e1]; exact Nat.eq_of_beq_eq_true h2.2⟩
theorem root_tab {l : List Int} (h : l ∈ allSz) : ∃ r ∈ tabR, (rootOf l).getD 0 0 = (r.1 : Int) ∧ (rootOf l).getD 1 0 = (r.2.1 : Int) ∧ (rootOf l).getD 2 0 = (r.2.2.1 : Int) ∧ encN 17 (wayI (rootOf l)) = r.2.2.2 := by
  obtain ⟨r, hr, e⟩ := List.any_eq_true.mp (List.all_eq_true.mp tabR_all l h)
  simp only [okR, Bool.and_eq_true, decide_eq_true_eq] at e
  exact ⟨r, hr, e.1, e.2.1, e.2.2.1, Nat.eq_of_beq_eq_true e.2.2.2⟩
theorem root_len {l : List Int} (h : l ∈ allSz) : (rootOf l).length ≠ 2 := by
  have : allSz.all (fun l => decide (l.length ≠ 0)) = true := by decide +kernel
  have h2 := of_decide_eq_true (List.all_eq_true.mp this l h)
  unfold rootOf
  rw [List.length_append]; simp only [List.length_cons, List.length_nil]; omega
theorem side_nat {num : List Int} {a b c u l : Nat} (hn : num.length ≠ 2) (h0 : num.getD 0 0 = (a : Int)) (h1 : num.getD 1 0 = (b : Int)) (h2 : num.getD 2 0 = (c : Int)) : sideI num (u : Int) (l : Int) = if sideN a b c u l = true then 1 else -1 := by
  unfold sideI sideN
  rw [if_neg hn, h0, h1, h2]
  have ea : ((a : Int) * (l : Int)) = ((a * l : Nat) : Int) := (Int.natCast_mul a l).symm
  rw [ea]
  by_cases c1 : u ≤ a * l
  · rw [if_pos (by omega), if_pos (by simp [c1])]
  · obtain ⟨d, hd⟩ : ∃ d, u - a * l = d := ⟨_, rfl⟩
    have hd' : (u : Int) - ((a * l : Nat) : Int) = (d : Int) := by omega
    rw [if_neg (by omega), hd', hd]
    have eb : ((b : Int) * (d : Int)) = ((b * d : Nat) : Int) := (Int.natCast_mul b d).symm
    rw [eb]
    have f1 : Nat.ble u (a * l) = false := by
      cases q : Nat.ble u (a * l) with
      | false => rfl
      | true => exact absurd (Nat.le_of_ble_eq_true q) c1
    rw [f1, Bool.false_or]
    by_cases c2 : b * d < l
    · obtain ⟨e, he⟩ : ∃ e, l - b * d = e := ⟨_, rfl⟩
      have he' : (l : Int) - ((b * d : Nat) : Int) = (e : Int) := by omega
      rw [he', he]
      have ec : (e : Int) * ((e : Int) + (c : Int) * (d : Int)) = ((e * (e + c * d) : Nat) : Int) := by simp
      have ed : (d : Int) * (d : Int) = ((d * d : Nat) : Int) := (Int.natCast_mul d d).symm
      rw [ec, ed]
      have f2 : Nat.blt (b * d) l = true := Nat.blt_eq.mpr c2
      rw [f2, Bool.true_and]
      by_cases c3 : d * d < e * (e + c * d)
      · rw [if_pos ⟨by omega, by omega⟩, if_pos (Nat.blt_eq.mpr c3)]
      · rw [if_neg (fun h => c3 (by have := h.2; omega)), if_neg (fun h => c3 (Nat.blt_eq.mp h))]
    · rw [if_neg (fun h => c2 (by have := h.1; omega)), if_neg (fun h => c2 (Nat.blt_eq.mp (Bool.and_eq_true_iff.mp h).1))]
theorem order_FF {l1 l2 : List Int} (h1 : l1 ∈ allSz) (h2 : l2 ∈ allSz) : sgW (encN 17 (wayI (fracOf l1))) (encN 17 (wayI (fracOf l2))) = orderI (fracOf l1) (fracOf l2) := by
  obtain ⟨p, hp, e1, w1⟩ := frac_tab h1
  obtain ⟨q, hq, e2, w2⟩ := frac_tab h2
  rw [w1, w2, e1, e2]
  have eo : orderI [(p.2.1 : Int), (p.2.2.1 : Int)] [(q.2.1 : Int), (q.2.2.1 : Int)] = sgn3 ((q.2.1 : Int) * (p.2.2.1 : Int)) ((p.2.1 : Int) * (q.2.2.1 : Int)) := rfl
  rw [eo, ← Int.natCast_mul, ← Int.natCast_mul]
  unfold sgn3 sgW
  rcases tabF_rel p hp q hq with rfl | h | h
  · rw [if_neg (by omega), if_neg (by omega), if_pos (by rw [Nat.mul_comm])]
  · obtain ⟨a, b, c⟩ := h
    rw [if_neg (by omega), if_pos a, if_neg (by omega), if_neg (by omega)]
  · obtain ⟨a, b, c⟩ := h
    rw [if_pos a, if_neg (by omega), if_pos (by omega)]
theorem side_RF {l1 l2 : List Int} (h1 : l1 ∈ allSz) (h2 : l2 ∈ allSz) : sgW (encN 17 (wayI (rootOf l1))) (encN 17 (wayI (fracOf l2))) = sideI (rootOf l1) ((fracOf l2).getD 0 0) ((fracOf l2).getD 1 0) ∧ encN 17 (wayI (rootOf l1)) ≠ encN 17 (wayI (fracOf l2)) := by
  obtain ⟨r, hr, a0, a1, a2, w1⟩ := root_tab h1
  obtain ⟨f, hf, e2, w2⟩ := frac_tab h2
  have ok := tabFR r hr f hf
  rw [w1, w2, e2]
  have es : sideI (rootOf l1) ([(f.2.1 : Int), (f.2.2.1 : Int)].getD 0 0) ([(f.2.1 : Int), (f.2.2.1 : Int)].getD 1 0) = _ := side_nat (root_len h1) a0 a1 a2
  rw [es]
  unfold okFR at ok
  unfold sgW
  split at ok
  · rename_i hs
    have := Nat.blt_eq.mp ok
    rw [if_pos hs, if_pos this]; exact ⟨rfl, by omega⟩
  · rename_i hs
    have := Nat.blt_eq.mp ok
    rw [if_neg hs, if_neg (by omega), if_pos this]; exact ⟨rfl, by omega⟩
theorem order_RF {l1 l2 : List Int} (h1 : l1 ∈ allSz) (h2 : l2 ∈ allSz) : sgW (encN 17 (wayI (rootOf l1))) (encN 17 (wayI (fracOf l2))) = orderI (rootOf l1) (fracOf l2) := (side_RF h1 h2).1
theorem order_FR {l1 l2 : List Int} (h1 : l1 ∈ allSz) (h2 : l2 ∈ allSz) : sgW (encN 17 (wayI (fracOf l1))) (encN 17 (wayI (rootOf l2))) = orderI (fracOf l1) (rootOf l2) := by
  obtain ⟨a, b⟩ := side_RF h2 h1
  unfold orderI
  rw [if_neg (root_len h2), if_pos (show (fracOf l1).length = 2 from rfl), ← a]
  unfold sgW
  generalize encN 17 (wayI (fracOf l1)) = x at *
  generalize encN 17 (wayI (rootOf l2)) = y at *
  by_cases c1 : y < x
  · rw [if_pos c1, if_neg (by omega), if_pos c1]; rfl
  · rw [if_neg c1, if_pos (by omega), if_pos (by omega)]
theorem ordT {p0 p1 p2 q0 q1 q2 : Nat} (bp : 1 ≤ p0 ∧ p0 ≤ 5 ∧ 1 ≤ p1 ∧ p1 ≤ 5 ∧ 1 ≤ p2 ∧ p2 ≤ 5) (bq : 1 ≤ q0 ∧ q0 ≤ 5 ∧ 1 ≤ q1 ∧ q1 ≤ 5 ∧ 1 ≤ q2 ∧ q2 ≤ 5) :
    (if (p0 : Int) ≠ (q0 : Int) then (if decide ((p0 : Int) > (q0 : Int)) = true then (1 : Int) else -1) else if (p1 : Int) ≠ (q1 : Int) then (if decide ((p1 : Int) > (q1 : Int)) = false then 1 else -1) else if (p2 : Int) ≠ (q2 : Int) then (if decide ((p2 : Int) > (q2 : Int)) = true then 1 else -1) else 0) = sgW (p0 * 36 + (6 - p1) * 6 + p2) (q0 * 36 + (6 - q1) * 6 + q2) := by
  unfold sgW
  simp only [decide_eq_true_eq, decide_eq_false_iff_not]
  (repeat' split) <;> omega
theorem order_RR {l1 l2 : List Int} (h1 : l1 ∈ allSz) (h2 : l2 ∈ allSz) : sgW (encN 17 (wayI (rootOf l1))) (encN 17 (wayI (rootOf l2))) = orderI (rootOf l1) (rootOf l2) := by
  obtain ⟨p, hp, a0, a1, a2, w1⟩ := root_tab h1
  obtain ⟨q, hq, b0, b1, b2, w2⟩ := root_tab h2
  have bp := of_decide_eq_true (List.all_eq_true.mp tabR_bd p hp)
  have bq := of_decide_eq_true (List.all_eq_true.mp tabR_bd q hq)
  unfold orderI
  rw [if_neg (root_len h2), if_neg (root_len h1), w1, w2]
  simp only [ordK, a0, a1, a2, b0, b1, b2]
  have hrel := tabR_rel p hp q hq
  unfold RelR keyR at hrel
  obtain ⟨p0, p1, p2, pw⟩ := p
  obtain ⟨q0, q1, q2, qw⟩ := q
  dsimp only at *
  have n0 : (((0 : Nat) : Nat) != 1) = true := rfl
  have n1 : ((0 + 1 : Nat) != 1) = false := rfl
  have n2 : ((0 + 1 + 1 : Nat) != 1) = true := rfl
  rw [n0, n1, n2, ordT bp bq]
  unfold sgW
  rcases hrel with h | h | h
  · cases h; rw [if_neg (by omega), if_neg (by omega), if_neg (by omega), if_neg (by omega)]
  · rw [if_neg (show ¬ qw < pw by omega), if_pos h.1, if_neg (by omega), if_pos h.2]
  · rw [if_pos h.1, if_pos h.2]
theorem order_all (x y : Int) : b2i (decide (wayI (numI (szs y) (endI y)) < wayI (numI (szs x) (endI x)))) - b2i (decide (wayI (numI (szs x) (endI x)) < wayI (numI (szs y) (endI y)))) = orderI (numI (szs x) (endI x)) (numI (szs y) (endI y)) := by
  rw [sg_way]
  have hx := szs_in x
  have hy := szs_in y
  unfold numI
  by_cases ex : endI x = 0
  · rw [if_pos ex]
    by_cases ey : endI y = 0
    · rw [if_pos ey]; exact order_RR hx hy
    · rw [if_neg ey]; exact order_RF hx hy
  · rw [if_neg ex]
    by_cases ey : endI y = 0
    · rw [if_pos ey]; exact order_FR hx hy
    · rw [if_neg ey]; exact order_FF hx hy
end Mine
end
section
open PySem PySem.W PyProof.Rows PySem.Calls PySem.Spec PySem.NumText
set_option maxRecDepth 100000
set_option maxHeartbeats 4000000
namespace Mine
theorem turn_out (elt t1 i1 t2 i2 : Expr) (scope : Scope) (pos : Pos) (it acc : Value) (env : Env) :
    compTurn (.ListComp elt [⟨t1, i1, [], 0⟩, ⟨t2, i2, [], 0⟩] scope pos) 0 it acc env = (do
      standAt i1.pos
      match ← pyNext it with
      | none => pure (.done .next)
      | some v =>
        letOwnedTupleGo t1 it v
        assign t1 env v
        let mut ok := true
        for c in ([] : List Expr) do
          if ok then ok ← isTrue c env (eval c env)
        if ok then
          let x ← eval i2 env
          standAt i2.pos
          let x ← foldedSetIterable i2 env x
          let _ ← runOwn (.compStart (.ListComp elt [⟨t1, i1, [], 0⟩, ⟨t2, i2, [], 0⟩] scope pos) 1 (← holding [x] (pyIter x)) acc env) env
        again (.compLoop (.ListComp elt [⟨t1, i1, [], 0⟩, ⟨t2, i2, [], 0⟩] scope pos) 0 it acc env)) := by rfl
theorem turn_in (elt t1 i1 t2 i2 : Expr) (scope : Scope) (pos : Pos) (it acc : Value) (env : Env) :
    compTurn (.ListComp elt [⟨t1, i1, [], 0⟩, ⟨t2, i2, [], 0⟩] scope pos) 1 it acc env = (do
      standAt i2.pos
      match ← pyNext it with
      | none => pure (.done .next)
      | some v =>
        letOwnedTupleGo t2 it v
        assign t2 env v
        let mut ok := true
        for c in ([] : List Expr) do
          if ok then ok ← isTrue c env (eval c env)
        if ok then
          (do let _ ← call (.builtin "list.append") [acc, ← eval elt env])
        again (.compLoop (.ListComp elt [⟨t1, i1, [], 0⟩, ⟨t2, i2, [], 0⟩] scope pos) 1 it acc env)) := by rfl
section
variable {prog : Program} {w : World} {A : Around} {E : Value → Shared → Prop} {R : Result → Shared → Prop} {s : Shared}
theorem nest_in {elt t1 i1 t2 i2 : Expr} {scope : Scope} {pos : Pos} {it acc : Value} {env : Env} (I : Nat → Shared → Prop)
    (turn : ∀ n s, I n s → wpAny (model prog w) A (pyNext it) (fun r s₁ => match r with
      | none => R (.ok .next) s₁
      | some v => wpAny (model prog w) A (letOwnedTupleGo t2 it v) (fun _ s₀ => wpAny (model prog w) A (assign t2 env v) (fun _ s₂ =>
          wpAny (model prog w) A (eval elt env) (fun x s₄ =>
            wpAny (model prog w) A (call (.builtin "list.append") [acc, x]) (fun _ s₅ => ∃ m, m < n ∧ I m s₅) (notedBy (model prog w) A env fun e s' => R (.error e) s') s₄) (notedBy (model prog w) A env fun e s' => R (.error e) s') s₂)
          (notedBy (model prog w) A env fun e s' => R (.error e) s') s₀) (notedBy (model prog w) A env fun e s' => R (.error e) s') s₁) (notedBy (model prog w) A env fun e s' => R (.error e) s') s)
    (n : Nat) (h : I n s) : codeAny (model prog w) A (.compLoop (.ListComp elt [⟨t1, i1, [], 0⟩, ⟨t2, i2, [], 0⟩] scope pos) 1 it acc env) R s := by
  refine codeAny_loop rfl I (fun n s hI => ?_) n h
  show wpAny _ A ((compTurn (.ListComp elt [⟨t1, i1, [], 0⟩, ⟨t2, i2, [], 0⟩] scope pos) 1 it acc env).onRaise (fun x => do noteFrame x env; theTreesLotGoes x)) _ _ s
  refine wpAny_noted ?_
  rw [turn_in]
  refine wpAny_bind (wpAny_standAt (wpAny_bind (wpAny_mono (turn n s hI) (fun r s₁ h₁ => ?_) fun _ _ h' => h')))
  cases r with
  | none => exact wpAny_pure h₁
  | some v =>
    refine wpAny_bind (wpAny_mono h₁ (fun _ s₀ h₀' => ?_) fun _ _ h' => h')
    refine wpAny_bind (wpAny_mono h₀' (fun _ s₂ h₂ => ?_) fun _ _ h' => h')
    refine wpAny_bind (wpAny_tests_nil ?_)
    exact wpAny_bind (wpAny_bind (wpAny_mono h₂ (fun x s₄ h₄ => wpAny_bind (wpAny_mono h₄ (fun _ s₅ h₅ => wpAny_pure (wpAny_pure ⟨rfl, h₅⟩)) fun _ _ h' => h')) fun _ _ h' => h'))
theorem nest_start {elt t1 i1 t2 i2 : Expr} {scope : Scope} {pos : Pos} {it acc : Value} {env : Env}
    (h0 : codeAny (model prog w) A (.compLoop (.ListComp elt [⟨t1, i1, [], 0⟩, ⟨t2, i2, [], 0⟩] scope pos) 1 it acc env) R s)
    (h : wpAny (model prog w) A (pyIter it) (fun it' s' => codeAny (model prog w) A (.compLoop (.ListComp elt [⟨t1, i1, [], 0⟩, ⟨t2, i2, [], 0⟩] scope pos) 1 it' acc env) R s')
      (notedBy (model prog w) A env fun x s' => R (.error x) s') s) :
    codeAny (model prog w) A (.compStart (.ListComp elt [⟨t1, i1, [], 0⟩, ⟨t2, i2, [], 0⟩] scope pos) 1 it acc env) R s := by
  refine codeAny_of_tree ?_
  show wpAny _ _ ((compStart (.ListComp elt [⟨t1, i1, [], 0⟩, ⟨t2, i2, [], 0⟩] scope pos) 1 it acc env).onRaise (fun x => do noteFrame x env; standAt theWindowsPlace)) _ _ s
  refine wpAny_notedAt ?_
  unfold compStart
  show wpAny _ _ (ask >>= _) _ _ s
  refine wpAny_bind (wpAny_askSetting (wpAny_ite ?_))
  split
  · first
      | exact wpAny_bind (wpAny_pure (wpAny_pure (And.intro rfl h0)))
      | exact wpAny_pure (And.intro rfl h0)
  · first
      | (refine wpAny_bind (wpAny_pure ?_); refine wpAny_bind (wpAny_rule ?_); show wpAny _ _ (standAt i2.pos >>= _) _ _ s; exact wpAny_bind (wpAny_standAt (wpAny_bind (wpAny_mono h (fun it' s' h' => wpAny_pure (And.intro rfl h')) fun _ _ x => x))))
      | (refine wpAny_bind (wpAny_rule ?_); show wpAny _ _ (standAt i2.pos >>= _) _ _ s; exact wpAny_bind (wpAny_standAt (wpAny_bind (wpAny_mono h (fun it' s' h' => wpAny_pure (And.intro rfl h')) fun _ _ x => x))))
theorem nest_out {elt t1 i1 t2 i2 : Expr} {scope : Scope} {pos : Pos} {it acc : Value} {env : Env} (I : Nat → Shared → Prop)
    (turn : ∀ n s, I n s → wpAny (model prog w) A (pyNext it) (fun r s₁ => match r with
      | none => R (.ok .next) s₁
      | some v => wpAny (model prog w) A (letOwnedTupleGo t1 it v) (fun _ s₀ => wpAny (model prog w) A (assign t1 env v) (fun _ s₂ =>
          wpAny (model prog w) A (eval i2 env) (fun x s₃ => wpAny (model prog w) A (pyIter x) (fun it2 s₄ =>
            codeAny (model prog w) A (.compStart (.ListComp elt [⟨t1, i1, [], 0⟩, ⟨t2, i2, [], 0⟩] scope pos) 1 it2 acc env) (fun r s₅ => r = .ok .next ∧ ∃ m, m < n ∧ I m s₅) s₄) (notedBy (model prog w) A env fun e s' => R (.error e) s') s₃) (notedBy (model prog w) A env fun e s' => R (.error e) s') s₂)
          (notedBy (model prog w) A env fun e s' => R (.error e) s') s₀) (notedBy (model prog w) A env fun e s' => R (.error e) s') s₁) (notedBy (model prog w) A env fun e s' => R (.error e) s') s)
    (n : Nat) (h : I n s) (hs : ∀ x, foldedSetIterable i2 env x = pure x := by intro _; rfl) : codeAny (model prog w) A (.compLoop (.ListComp elt [⟨t1, i1, [], 0⟩, ⟨t2, i2, [], 0⟩] scope pos) 0 it acc env) R s := by
  refine codeAny_loop rfl I (fun n s hI => ?_) n h
  show wpAny _ A ((compTurn (.ListComp elt [⟨t1, i1, [], 0⟩, ⟨t2, i2, [], 0⟩] scope pos) 0 it acc env).onRaise (fun x => do noteFrame x env; theTreesLotGoes x)) _ _ s
  refine wpAny_noted ?_
  rw [turn_out]
  refine wpAny_bind (wpAny_standAt (wpAny_bind (wpAny_mono (turn n s hI) (fun r s₁ h₁ => ?_) fun _ _ h' => h')))
  cases r with
  | none => exact wpAny_pure h₁
  | some v =>
    refine wpAny_bind (wpAny_mono h₁ (fun _ s₀ h₀' => ?_) fun _ _ h' => h')
    refine wpAny_bind (wpAny_mono h₀' (fun _ s₂ h₂ => ?_) fun _ _ h' => h')
    refine wpAny_bind (wpAny_tests_nil ?_)
    simp only [if_true]
    refine wpAny_bind (wpAny_mono h₂ (fun x s₃ h₃ => ?_) fun _ _ h' => h')
    refine wpAny_bind (wpAny_standAt (wpAny_bind (wpAny_of_eq (hs x) ?_)))
    refine wpAny_bind (wpAny_holding (wpAny_mono h₃ (fun it2 s₄ h₄ => ?_) fun _ _ h' => h'))
    refine wpAny_bind (wpAny_runOwn ?_)
    rw [Around.mark_none]
    refine codeAny_mono h₄ fun r s₅ hr => ?_
    obtain ⟨rfl, hr⟩ := hr
    exact wpAny_pure ⟨rfl, hr⟩
end
end Mine
end
section
open PySem PySem.W PyProof.Rows PySem.Calls PySem.Spec PySem.NumText
set_option maxRecDepth 100000
set_option maxHeartbeats 4000000
namespace Mine
section
variable {prog : Program} {w : World} {A : Around} {E : Value → Shared → Prop} {R : Result → Shared → Prop} {s : Shared} {env : Env}
theorem comp_head {elt target iter : Expr} {ifs : List Expr} {rest : List Comprehension} {scope : Scope} {cl : List (Str × Addr)} {pos : Pos} {Q : Value → Shared → Prop}
    (h : wpAny (model prog w) A (eval iter env) (fun xv s₁ => ∃ (ax : Addr) (items : Array Value), xv = .ref ax ∧ s₁.heap.IsList ax items ∧
      ∀ I D C h₁ tk m, s₁.heap.get? I = none → s₁.heap.get? D = none → s₁.heap.get? C = none → I ≠ D → I ≠ C → D ≠ C → Keep s₁.heap h₁ → h₁.IsListIter I ax 0 → h₁.PlainList D #[] → h₁.Ns C m →
        codeAny (model prog w) A (.compLoop (.ListComp elt (⟨target, iter, ifs, 0⟩ :: rest) scope pos) 0 (.ref I) (.ref D) (compEnvC scope cl C env))
          (fun r s' => r = .ok .next ∧ ∃ h' tk' m', s' = { s₁ with heap := h', toks := tk' } ∧ h'.Ns C m' ∧ ∀ h'', Heap.SameBut C h' h'' → Q (.ref D) { s₁ with heap := h'', toks := tk' }) { s₁ with heap := h₁, toks := tk }) E s)
    (hclos : closureFor scope env = pure cl := by rfl) (hcell : ∀ y ∈ scope.names, y.2 ≠ .cell := by decide) (hkind : scope.kind = .function := by rfl)
    (hnames : ∀ y ∈ scope.names, y.2 = .local → scope.names.lookup y.1 = some .local := by decide)
    (hs : ∀ x, foldedSetIterable iter env x = pure x := by intro _; rfl) :
    wpAny (model prog w) A (eval (.ListComp elt (⟨target, iter, ifs, 0⟩ :: rest) scope pos) env) Q E s := by
  rw [eval_ListComp]
  refine wpAny_comprehension_free (use := none) rfl hs hclos hkind hnames (wpAny_mono h (fun xv s₁ h₁ => ?_) fun _ _ e => e)
  obtain ⟨ax, items, rfl, hl, hgo⟩ := h₁
  obtain ⟨ol, hol, hol'⟩ := id hl
  have hax : ax < s₁.heap.objs.size := Heap.lt_size hol
  refine wpAny_pyIter_list hl (wpAny_newObj_type (hd := by size_fits) (wpAny_newFunctionEnv hcell (by intro y hy; simp at hy) (fun h₁ hns₁ hsb₁ => ?_) hkind))
  dsimp only at hns₁ hsb₁ ⊢
  generalize hH1 : s₁.heap.push { cls := .type "list_iterator", data := .fields #[.ref ax, .int 0 0] } = H1 at hns₁ hsb₁ ⊢
  have hD : H1.objs.size = s₁.heap.objs.size + 1 := by rw [← hH1, Heap.size_push]
  generalize hH2 : H1.push { cls := .type "list", dict := none, data := .seq ([] : List Value).toArray } = H2 at hns₁ hsb₁ ⊢
  have hC : H2.objs.size = s₁.heap.objs.size + 2 := by rw [← hH2, Heap.size_push, hD]
  have hDI : H1.objs.size ≠ s₁.heap.objs.size := by rw [hD]; exact Nat.succ_ne_self _
  have hDC : H1.objs.size ≠ H2.objs.size := by rw [hD, hC]; exact Nat.ne_of_lt (Nat.lt_succ_self _)
  have hIC : s₁.heap.objs.size ≠ H2.objs.size := by rw [hC]; exact Nat.ne_of_lt (Nat.lt_succ_of_lt (Nat.lt_succ_self _))
  have below : ∀ b, b < s₁.heap.objs.size → b ≠ H2.objs.size := fun b hb => by rw [hC]; exact Nat.ne_of_lt (Nat.lt_succ_of_lt (Nat.lt_succ_of_lt hb))
  have old : Keep s₁.heap h₁ := fun b o e =>
    hsb₁.extBut b o (below b (Heap.lt_size e)) (Heap.get?_push_of_some _ (hH2 ▸ Heap.get?_push_of_some _ (hH1 ▸ Heap.get?_push_of_some _ e)))
  have hit : h₁.IsListIter s₁.heap.objs.size ax 0 :=
    ⟨_, hsb₁.extBut _ _ hIC (Heap.get?_push_of_some _ (hH2 ▸ Heap.get?_push_of_some _ (hH1 ▸ Heap.get?_push_size _ rfl))), rfl, rfl⟩
  have hacc : h₁.PlainList H1.objs.size #[] := ⟨_, hsb₁.extBut _ _ hDC (Heap.get?_push_of_some _ (hH2 ▸ Heap.get?_push_size _ rfl))⟩
  have nD : s₁.heap.get? H1.objs.size = none := none_of_ge (by rw [hD]; exact Nat.le_succ _)
  have nC : s₁.heap.get? H2.objs.size = none := none_of_ge (by rw [hC]; exact Nat.le_add_right _ 2)
  have loop : ∀ s₂ : Shared, s₂ = { s₁ with heap := h₁, toks := s₁.toks + ([] : List (Str × Value)).length } →
      codeAny (model prog w) A (.compLoop (.ListComp elt (⟨target, iter, ifs, 0⟩ :: rest) scope pos) 0 (.ref s₁.heap.objs.size) (.ref H1.objs.size) (compEnvC scope cl H2.objs.size env))
        (compPost (model prog w) A E none Q (.ref H1.objs.size) H2.objs.size) s₂ := by
    rintro s₂ rfl
    refine codeAny_mono (hgo s₁.heap.objs.size H1.objs.size H2.objs.size h₁ _ _ (none_of_ge (Nat.le_refl _)) nD nC (Ne.symm hDI) hIC hDC old hit hacc hns₁) fun r s' hr => ?_
    obtain ⟨rfl, h', tk', m', rfl, hn, hq⟩ := hr
    exact ⟨m', hn, hq⟩
  exact codeAny_compStart_list (loop _ rfl) (wpAny_pyIter_listiter hit (loop _ rfl))
/-- [part for part in read if type(part) is not int], where all are ints -/
theorem comp_none {x : Str} {px p1 p2 p3 p4 pc : Pos} {iter elt : Expr} {scope : Scope} {cl : List (Str × Addr)} {pos : Pos} {mg mb : Str → Option Value} {Q : Value → Shared → Prop} (hh : A.handled = none)
    (h : wpAny (model prog w) A (eval iter env) (fun xv s₁ => ∃ (ax : Addr) (vs : List Value) (ns : List Int), xv = .ref ax ∧ s₁.heap.IsList ax vs.toArray ∧ IntsAre vs ns ∧ Wd mg mb s₁.heap ∧
      ∀ D h' tk n, s₁.heap.get? D = none → h'.get? D = some (lobj [] n) → Keep s₁.heap h' → Q (.ref D) { s₁ with heap := h', toks := tk }) E s)
    (hclos : closureFor scope env = pure cl := by rfl) (hcell : ∀ y ∈ scope.names, y.2 ≠ .cell := by decide) (hkind : scope.kind = .function := by rfl)
    (hnames : ∀ y ∈ scope.names, y.2 = .local → scope.names.lookup y.1 = some .local := by decide)
    (hs : ∀ x, foldedSetIterable iter env x = pure x := by intro _; rfl)
    (hx : ∀ C, (compEnvC scope cl C env).kindOf x = some .local := by intro _; rfl) (hp : ∀ C, ((compEnvC scope cl C env).scope.kind == .class || ((compEnvC scope cl C env).scope.kind == .module && (compEnvC scope cl C env).locals != (compEnvC scope cl C env).globals)) = false := by intro _; rfl)
    (hxt : ∀ C, (compEnvC scope cl C env).kindOf "type" = some .globalImplicit := by intro _; rfl) (hxi : ∀ C, (compEnvC scope cl C env).kindOf "int" = some .globalImplicit := by intro _; rfl)
    (hg : ∀ C, (compEnvC scope cl C env).globals = mainGlobals := by intro _; rfl) (hb : ∀ C, (compEnvC scope cl C env).builtins = builtinsNs := by intro _; rfl) (hk : ∀ C, (compEnvC scope cl C env).scope.kind = .function := by intro _; rfl)
    (hxd : (x == ("__debug__" : Str)) = false := by decide) :
    wpAny (model prog w) A (eval (.ListComp elt [⟨.Name x px, iter, [.Compare (.Call (.Name "type" p1) [.Name x p2] [] p3) [.IsNot] [.Name "int" p4] pc], 0⟩] scope pos) env) Q E s := by
  refine comp_head (wpAny_mono h (fun xv s₁ h₁ => ?_) fun _ _ e => e) hclos hcell hkind hnames hs
  obtain ⟨ax, vs, ns, rfl, hl, hi, W, hQ⟩ := h₁
  refine ⟨ax, vs.toArray, rfl, hl, fun I D C h₁ tk m nI nD nC hID hIC hDC hk₁ hit hacc hns => ?_⟩
  have n1 : ∀ {b c o}, s₁.heap.get? c = none → s₁.heap.get? b = some o → b ≠ c := fun hc e q => by rw [q, hc] at e; cases e
  obtain ⟨ol, hol, hol'⟩ := id hl
  refine codeAny_compLoop_tests (fun k s' => ∃ h' tk m' i, s' = { s₁ with heap := h', toks := tk } ∧ h'.IsListIter I ax i ∧ h'.PlainList D #[] ∧ h'.Ns C m' ∧ i ≤ vs.length ∧ k = vs.length + 1 - i ∧ Keep s₁.heap h') ?_ (vs.length + 1)
    ⟨h₁, tk, m, 0, rfl, hit, hacc, hns, Nat.zero_le _, rfl, hk₁⟩
  rintro k s' ⟨H, tk, m', i, rfl, hit', hacc', hn', hlen, rfl, hk'⟩
  have hl' : H.IsList ax vs.toArray := ⟨ol, hk' _ _ hol, hol'⟩
  cases hv : vs.toArray[i]? with
  | none =>
    refine wpAny_pyNext_list_end hh hit' hl' hv fun h₂ he₂ => ?_
    refine ⟨rfl, h₂, tk, m', rfl, hn'.extBut he₂ (Ne.symm hIC), fun h'' hs'' => ?_⟩
    obtain ⟨n, hD⟩ := hacc'
    exact hQ D h'' tk n nD (hs''.extBut _ _ hDC (he₂ _ _ (Ne.symm hID) hD)) fun b o e => hs''.extBut b o (n1 nC e) (he₂ b o (n1 nI e) (hk' b o e))
  | some v =>
    have hlt : i < vs.length := by simpa using (Array.getElem?_eq_some_iff.mp hv).1
    obtain ⟨z, t, rfl, hz⟩ := IntsAre.item hi (by simpa using hv)
    refine wpAny_pyNext_list_item hit' hl' hv fun h₂ hit₂ hs₂ => ?_
    have hn₂ : h₂.Ns C m' := hn'.sameBut hs₂ (Ne.symm hIC)
    have hk₂ : Keep s₁.heap h₂ := fun b o e => hs₂.extBut b o (n1 nI e) (hk' b o e)
    refine wpAny_assign_Name (wpAny_storeName_local (env := compEnvC scope cl C env) (hx C) hn₂ (fun h₃ hn₃ hs₃ => ?_) (hp C))
    have hn₃ : h₃.Ns C (up m' x (.int z t)) := hn₃
    have hk₃ : Keep s₁.heap h₃ := fun b o e => hs₃.extBut b o (n1 nC e) (hk₂ b o e)
    have W₃ := W.keeps hk₃
    refine wpAny_tests_one ?_
    refine wpAny_isTrue_Compare1 (Call_ (ldB W₃ boot_type (cwT (args_cons (ldE (env := compEnvC scope cl C env) hn₃ up_eq (args_nil (call_type_of (Tx := "int") (typeIs_int _ _ _) (by decide) (ldB W₃ boot_int (isnot_type_same (wpAny_truthy_bool ?_)) (hg := hg C) (hb := hb C) (hk := hk C) (hx := hxi C)))) (hk C) (hx C) hxd))) (hg := hg C) (hb := hb C) (hk := hk C) (hx := hxt C)))
    rw [if_neg (by decide)]
    refine ⟨vs.length + 1 - (i + 1), by omega, h₃, _, _, i + 1, rfl, hit₂.at fun o e => hs₃.extBut _ o hIC e, ?_, hn₃, hlt, rfl, hk₃⟩
    exact hacc'.at fun o e => hs₃.extBut _ o hDC (hs₂.extBut _ o (Ne.symm hID) e)
end
end Mine
end
section
open PySem PySem.W PyProof.Rows PySem.Calls PySem.Spec PySem.NumText
set_option maxRecDepth 100000
set_option maxHeartbeats 4000000
namespace Mine
section
variable {prog : Program} {w : World} {A : Around} {E : Value → Shared → Prop} {R : Result → Shared → Prop} {s : Shared} {env : Env}
/-- [part for size in row for part in [100, size]] -/
theorem comp_flat {x1 x2 : Str} {q1 q2 q3 q4 q5 : Pos} {k100 : Nat} {p100 : Pos} {iter : Expr} {scope : Scope} {cl : List (Str × Addr)} {pos : Pos} {Q : Value → Shared → Prop} (hh : A.handled = none)
    (h : wpAny (model prog w) A (eval iter env) (fun xv s₁ => ∃ (ax : Addr) (vs : List Value) (ns : List Int), xv = .ref ax ∧ s₁.heap.IsList ax vs.toArray ∧ IntsAre vs ns ∧ ns.length ≤ 100 ∧
      ∀ D h' tk us n, s₁.heap.get? D = none → h'.get? D = some (lobj us n) → IntsAre us (ns.flatMap fun n => [100, n]) → Keep s₁.heap h' → Q (.ref D) { s₁ with heap := h', toks := tk }) E s)
    (hclos : closureFor scope env = pure cl := by rfl) (hcell : ∀ y ∈ scope.names, y.2 ≠ .cell := by decide) (hkind : scope.kind = .function := by rfl)
    (hnames : ∀ y ∈ scope.names, y.2 = .local → scope.names.lookup y.1 = some .local := by decide)
    (hs : ∀ x, foldedSetIterable iter env x = pure x := by intro _; rfl)
    (hx1 : ∀ C, (compEnvC scope cl C env).kindOf x1 = some .local := by intro _; rfl) (hx2 : ∀ C, (compEnvC scope cl C env).kindOf x2 = some .local := by intro _; rfl)
    (hp : ∀ C, ((compEnvC scope cl C env).scope.kind == .class || ((compEnvC scope cl C env).scope.kind == .module && (compEnvC scope cl C env).locals != (compEnvC scope cl C env).globals)) = false := by intro _; rfl)
    (hk : ∀ C, (compEnvC scope cl C env).scope.kind = .function := by intro _; rfl)
    (hxd1 : (x1 == ("__debug__" : Str)) = false := by decide) (hxd2 : (x2 == ("__debug__" : Str)) = false := by decide) :
    wpAny (model prog w) A (eval (.ListComp (.Name x2 q1) [⟨.Name x1 q2, iter, [], 0⟩, ⟨.Name x2 q3, .List [.Constant (.int 100) k100 p100, .Name x1 q4] q5, [], 0⟩] scope pos) env) Q E s := by
  refine comp_head (wpAny_mono h (fun xv s₁ h₁ => ?_) fun _ _ e => e) hclos hcell hkind hnames hs
  obtain ⟨ax, vs, ns, rfl, hl, hi, hnl, hQ⟩ := h₁
  have hvl := hi.length
  refine ⟨ax, vs.toArray, rfl, hl, fun I D C h₁ tk m nI nD nC hID hIC hDC hk₁ hit hacc hns => ?_⟩
  have n1 : ∀ {b c o}, s₁.heap.get? c = none → s₁.heap.get? b = some o → b ≠ c := fun hc e q => by rw [q, hc] at e; cases e
  obtain ⟨ol, hol, hol'⟩ := id hl
  refine nest_out (fun k s' => ∃ h' tk m' i ys, s' = { s₁ with heap := h', toks := tk } ∧ h'.IsListIter I ax i ∧ h'.PlainList D (List.toArray ys) ∧ h'.Ns C m' ∧ IntsAre ys ((ns.take i).flatMap fun n => [100, n]) ∧ i ≤ ns.length ∧ k = ns.length + 1 - i ∧ Keep s₁.heap h') ?_ (ns.length + 1)
    ⟨h₁, tk, m, 0, [], rfl, hit, hacc, hns, .nil, Nat.zero_le _, rfl, hk₁⟩
  rintro k s' ⟨H, tk, m', i, ys, rfl, hit', hacc', hn', hys, hlen, rfl, hk'⟩
  have hl' : H.IsList ax vs.toArray := ⟨ol, hk' _ _ hol, hol'⟩
  cases hv : vs.toArray[i]? with
  | none =>
    have hin : i = ns.length := by
      have : vs.length ≤ i := by simpa using hv
      omega
    subst hin
    refine wpAny_pyNext_list_end hh hit' hl' hv fun h₂ he₂ => ?_
    refine ⟨rfl, h₂, tk, m', rfl, hn'.extBut he₂ (Ne.symm hIC), fun h'' hs'' => ?_⟩
    obtain ⟨n, hD⟩ := hacc'
    rw [List.take_length] at hys
    exact hQ D h'' tk ys n nD (hs''.extBut _ _ hDC (he₂ _ _ (Ne.symm hID) hD)) hys fun b o e => hs''.extBut b o (n1 nC e) (he₂ b o (n1 nI e) (hk' b o e))
  | some v =>
    have hlt : i < ns.length := by have : i < vs.length := by simpa using (Array.getElem?_eq_some_iff.mp hv).1
                                   omega
    obtain ⟨z, t, rfl, hz⟩ := IntsAre.item hi (by simpa using hv)
    refine wpAny_pyNext_list_item hit' hl' hv fun h₂ hit₂ hs₂ => wpAny_pure ?_
    have hn₂ : h₂.Ns C m' := hn'.sameBut hs₂ (Ne.symm hIC)
    have hk₂ : Keep s₁.heap h₂ := fun b o e => hs₂.extBut b o (n1 nI e) (hk' b o e)
    refine wpAny_assign_Name (wpAny_storeName_local (env := compEnvC scope cl C env) (hx1 C) hn₂ (fun h₃ hn₃ hs₃ => ?_) (hp C))
    have hn₃ : h₃.Ns C (up m' x1 (.int z t)) := hn₃
    have hk₃ : Keep s₁.heap h₃ := fun b o e => hs₃.extBut b o (n1 nC e) (hk₂ b o e)
    have hit₃ : h₃.IsListIter I ax (i + 1) := hit₂.at fun o e => hs₃.extBut _ o hIC e
    have hacc₃ : h₃.PlainList D (List.toArray ys) := hacc'.at fun o e => hs₃.extBut _ o hDC (hs₂.extBut _ o (Ne.symm hID) e)
    refine List_ (args_cons (wpAny_Constant_int (args_cons (ldE (env := compEnvC scope cl C env) hn₃ up_eq (args_nil (newLst ?_)) (hk C) (hx1 C) hxd1))))
    dsimp only
    have kp₄ : Keep h₃ (h₃.push (lobj [.int 100 (tk + 1), .int z t] 0)) := Keep.push _ _
    have hB : (h₃.push (lobj [.int 100 (tk + 1), .int z t] 0)).get? h₃.objs.size = some (lobj [.int 100 (tk + 1), .int z t] 0) := Heap.get?_push_size _ rfl
    have nB : h₃.get? h₃.objs.size = none := none_of_ge (Nat.le_refl _)
    generalize h₃.push (lobj [.int 100 (tk + 1), .int z t] 0) = h₄ at kp₄ hB ⊢
    generalize h₃.objs.size = B at hB nB ⊢
    have hib : IntsAre [.int 100 (tk + 1), .int z t] [100, z] := .cons _ _ (.cons _ _ .nil)
    generalize [Value.int 100 (tk + 1), .int z t] = bv at hB hib ⊢
    have hlb : h₄.IsList B bv.toArray := ⟨_, hB, rfl, _, rfl⟩
    refine wpAny_pyIter_list hlb ?_
    have kp₅ : Keep h₄ (h₄.push { cls := .type "list_iterator", data := .fields #[.ref B, .int 0 0] }) := Keep.push _ _
    have hit2 : (h₄.push { cls := .type "list_iterator", data := .fields #[.ref B, .int 0 0] }).IsListIter h₄.objs.size B 0 := ⟨_, Heap.get?_push_size _ rfl, rfl, rfl⟩
    have nJ : h₄.get? h₄.objs.size = none := none_of_ge (Nat.le_refl _)
    dsimp only
    generalize h₄.push { cls := .type "list_iterator", data := .fields #[.ref B, .int 0 0] } = h₅ at kp₅ hit2 ⊢
    generalize h₄.objs.size = J at hit2 nJ ⊢
    have k35 : Keep h₃ h₅ := Keep.trans kp₄ kp₅
    obtain ⟨oI, hoI, _⟩ := id hit₃
    obtain ⟨nDD, hoD⟩ := id hacc₃
    obtain ⟨oC, _, _, hoC, _⟩ := id hn₃
    have hJI : J ≠ I := fun q => by rw [q, kp₄ _ _ hoI] at nJ; cases nJ
    have hJD : J ≠ D := fun q => by rw [q, kp₄ _ _ hoD] at nJ; cases nJ
    have hJC : J ≠ C := fun q => by rw [q, kp₄ _ _ hoC] at nJ; cases nJ
    have hJB : J ≠ B := fun q => by rw [q, hB] at nJ; cases nJ
    have hBD : B ≠ D := fun q => by rw [q, hoD] at nB; cases nB
    have hBC : B ≠ C := fun q => by rw [q, hoC] at nB; cases nB
    have hst : (ns.take (i + 1)) = ns.take i ++ [z] := by rw [List.take_add_one, hz]; rfl
    have loop : ∀ s₂ : Shared, (∃ tk, s₂ = { s₁ with heap := h₅, toks := tk }) → codeAny (model prog w) A (.compLoop (.ListComp (.Name x2 q1) [⟨.Name x1 q2, iter, [], 0⟩, ⟨.Name x2 q3, .List [.Constant (.int 100) k100 p100, .Name x1 q4] q5, [], 0⟩] scope pos) 1 (.ref J) (.ref D) (compEnvC scope cl C env))
        (fun r s₅ => r = .ok .next ∧ ∃ m, m < ns.length + 1 - i ∧ ∃ h' tk m' i ys, s₅ = { s₁ with heap := h', toks := tk } ∧ h'.IsListIter I ax i ∧ h'.PlainList D (List.toArray ys) ∧ h'.Ns C m' ∧ IntsAre ys ((ns.take i).flatMap fun n => [100, n]) ∧ i ≤ ns.length ∧ m = ns.length + 1 - i ∧ Keep s₁.heap h') s₂ := by
      rintro s₂ ⟨tk₂, rfl⟩
      refine nest_in (fun k s' => ∃ h' tk m' j zs, s' = { s₁ with heap := h', toks := tk } ∧ h'.IsListIter I ax (i + 1) ∧ h'.IsListIter J B j ∧ h'.IsList B bv.toArray ∧ h'.PlainList D (List.toArray (ys ++ zs)) ∧ h'.Ns C m' ∧ IntsAre zs ([100, z].take j) ∧ j ≤ 2 ∧ k = 3 - j ∧ Keep s₁.heap h') ?_ 3
        ⟨h₅, tk₂, _, 0, [], rfl, hit₃.at fun o e => k35 _ o e, hit2, hlb.at fun o e => kp₅ _ o e, by rw [List.append_nil]; exact hacc₃.at fun o e => k35 _ o e, hn₃.keeps k35, .nil, Nat.zero_le _, rfl, Keep.trans hk₃ k35⟩
      rintro k s' ⟨G, tk, m₂, j, zs, rfl, itI, itJ, lB, pD, nC₂, hzs, hj, rfl, hkG⟩
      have hzl := hzs.length
      cases hw : bv.toArray[j]? with
      | none =>
        have hj2 : j = 2 := by
          have h2 : bv.length = 2 := hib.length
          have : bv.length ≤ j := by simpa using hw
          omega
        subst hj2
        refine wpAny_pyNext_list_end hh itJ lB hw fun h₂ he₂ => ?_
        refine ⟨rfl, ns.length + 1 - (i + 1), by omega, h₂, tk, m₂, i + 1, ys ++ zs, rfl, itI.at fun o e => he₂ _ o (Ne.symm hJI) e, pD.at fun o e => he₂ _ o (Ne.symm hJD) e, nC₂.extBut he₂ (Ne.symm hJC), ?_, hlt, rfl, fun b o e => he₂ b o (fun q => ?_) (hkG b o e)⟩
        · rw [hst, List.flatMap_append]
          exact ints_append hys hzs
        · rw [q] at e; rw [kp₄ _ _ (hk₃ _ _ e)] at nJ; cases nJ
      | some v =>
        have hjl : j < 2 := by
          have h2 : bv.length = 2 := hib.length
          have : j < bv.length := by simpa using (Array.getElem?_eq_some_iff.mp hw).1
          omega
        obtain ⟨z2, t2, rfl, hz2⟩ := IntsAre.item hib (by simpa using hw)
        refine wpAny_pyNext_list_item itJ lB hw fun h₆ itJ₆ hs₆ => wpAny_pure ?_
        refine wpAny_assign_Name (wpAny_storeName_local (env := compEnvC scope cl C env) (hx2 C) (nC₂.sameBut hs₆ (Ne.symm hJC)) (fun h₇ hn₇ hs₇ => ?_) (hp C))
        have hn₇ : h₇.Ns C (up m₂ x2 (.int z2 t2)) := hn₇
        refine ldE (env := compEnvC scope cl C env) hn₇ up_eq ?_ (hk C) (hx2 C) hxd2
        have pD₇ : h₇.PlainList D (List.toArray (ys ++ zs)) := pD.at fun o e => hs₇.extBut _ o hDC (hs₆.extBut _ o (Ne.symm hJD) e)
        have hysl := hys.length
        rw [flat2_len, List.length_take] at hysl
        refine wpAny_list_append_plain (hsz := by rw [sizeLine_eq]; simp; rw [List.length_take] at hzl; simp only [List.length_cons, List.length_nil] at hzl; omega) pD₇ fun h₈ hl₈ hs₈ => ?_
        have hJ1 : ∀ b o, s₁.heap.get? b = some o → b ≠ J := fun b o e q => by rw [q] at e; rw [kp₄ _ _ (hk₃ _ _ e)] at nJ; cases nJ
        refine ⟨3 - (j + 1), by omega, h₈, _, _, j + 1, zs ++ [.int z2 t2], rfl, ?_, ?_, ?_, ?_, hn₇.sameBut hs₈ (Ne.symm hDC), ?_, by omega, rfl, fun b o e => hs₈.extBut b o (n1 nD e) (hs₇.extBut b o (n1 nC e) (hs₆.extBut b o (hJ1 b o e) (hkG b o e)))⟩
        · exact itI.at fun o e => hs₈.extBut _ o hID (hs₇.extBut _ o hIC (hs₆.extBut _ o (Ne.symm hJI) e))
        · exact itJ₆.at fun o e => hs₈.extBut _ o hJD (hs₇.extBut _ o hJC e)
        · exact lB.at fun o e => hs₈.extBut _ o hBD (hs₇.extBut _ o hBC (hs₆.extBut _ o (Ne.symm hJB) e))
        · rw [← List.append_assoc]; simpa using hl₈
        · have : ([100, z] : List Int).take (j + 1) = ([100, z] : List Int).take j ++ [z2] := by rw [List.take_add_one, hz2]; rfl
          rw [this]
          exact ints_append hzs (.cons _ _ .nil)
    exact nest_start (loop _ ⟨_, rfl⟩) (wpAny_pyIter_listiter hit2 (loop _ ⟨_, rfl⟩))
end
end Mine
end
section
open PySem PySem.W PyProof.Rows PySem.Calls PySem.Spec PySem.NumText
set_option maxRecDepth 100000
set_option maxHeartbeats 4000000
namespace Mine
local macro_rules | `(tactic| walk_at "lk") => `(tactic| (repeat (first | exact up_eq | assumption | refine up_of ?_ (by decide))))
/-- the law's own helpers -/
structure Wl (mg : Str → Option Value) (h : Heap) : Prop where
  siz : ∃ f, mg "_law_sizes" = some (.ref f) ∧ FnIs h f "_law_sizes" 10
  num : ∃ f, mg "_law_number" = some (.ref f) ∧ FnIs h f "_law_number" 11
  sid : ∃ f, mg "_law_side" = some (.ref f) ∧ FnIs h f "_law_side" 12
  way : ∃ f, mg "_law_way" = some (.ref f) ∧ FnIs h f "_law_way" 13
  led : ∃ f, mg "_law_led" = some (.ref f) ∧ FnIs h f "_law_led" 14
  ord : ∃ f, mg "_law_order" = some (.ref f) ∧ FnIs h f "_law_order" 15
abbrev lawE (L : Addr) (cd : Value) : Env := envOf "law" (scpP 16) L 105 cd
def lawS (i : Nat) : List Stmt := (bdyP 16).drop i
def lawB (i : Nat) : List Stmt := match (bdyP 16)[2]? with | some (Stmt.For _ _ b _ _) => b.drop i | _ => []
def rowX (x : Int) : List Int := szs x ++ tailE (endI x)
theorem rowX_mem (x : Int) : ∀ y ∈ rowX x, 0 ≤ y ∧ y ≤ 127 := by
  intro y hy
  rcases List.mem_append.mp hy with h | h
  · have := szs_mem x y h; omega
  · unfold tailE at h
    split at h
    · simp at h; omega
    · split at h
      · simp at h; omega
      · cases h
theorem rowX_len (x : Int) : 1 ≤ (rowX x).length ∧ (rowX x).length ≤ 5 := by
  have h1 := szs_len x
  have h2 : (tailE (endI x)).length ≤ 2 := by unfold tailE; (repeat' split) <;> simp
  unfold rowX
  rw [List.length_append]; omega
def numT (n : Int) : List Nat := (Str.ofString (toString n)).cps.toList
def numOk (n : Nat) : Bool := let q := numT (n : Int); !q.isEmpty && q.all (fun c => decide (48 ≤ c) && decide (c ≤ 57)) && decide (digitsVal q = n) && decide (q.length ≤ 5)
theorem numT_all : (List.range 128).all (fun n => numOk n) = true := by decide +kernel
theorem numT_ok {y : Int} (h : 0 ≤ y ∧ y ≤ 127) : digP (numT y) ∧ ((digitsVal (numT y) : Nat) : Int) = y ∧ (numT y).length ≤ 5 := by
  obtain ⟨n, hn⟩ : ∃ n : Nat, y = (n : Int) := ⟨y.toNat, by omega⟩
  subst hn
  have hq := List.all_eq_true.mp numT_all n (List.mem_range.mpr (by omega))
  unfold numOk at hq
  generalize numT (n : Int) = q at hq ⊢
  simp only [Bool.and_eq_true, decide_eq_true_eq, List.all_eq_true, Bool.not_eq_true'] at hq
  obtain ⟨⟨⟨a, b⟩, c⟩, d⟩ := hq
  exact ⟨⟨fun e => by rw [e] at a; simp at a, fun c hc => b c hc⟩, by omega, d⟩
def sepX (x : Int) : Nat := if sepI x = 0 then 46 else if sepI x = 1 then 95 else if sepI x = 2 then 45 else 43
theorem sepX_ok (x : Int) : isSep (sepX x) := by
  unfold sepX isSep; (repeat' split) <;> simp
theorem sep_item (x : Int) : Txt.item "._-+" (sepI x) = ⟨#[sepX x]⟩ := by
  have h := fmod_range (x.fdiv 1125) (show (0 : Int) < 4 by omega)
  have h' : 0 ≤ sepI x ∧ sepI x < 4 := h
  unfold sepX
  generalize sepI x = k at h' ⊢
  rcases (show k = 0 ∨ k = 1 ∨ k = 2 ∨ k = 3 by omega) with rfl | rfl | rfl | rfl <;> decide
section
variable {prog : Program} {w : World} {A : Around} {E : Value → Shared → Prop} {s : Shared} {mg mb : Str → Option Value} {h₀ : Heap} {L : Addr} {cd : Value} {m : Str → Option Value} {nx : List (Addr × Obj)}
theorem lb_row {x : Int} {tx : Tok} {Q : Flow → Shared → Prop} (W : Wd mg mb h₀) (V : Wl mg h₀) (hroom : A.depth < recursionLimit) (F : Fr h₀ L s.heap m) (N : News h₀ L s.heap nx) (hx : m "x" = some (.int x tx))
    (K : ∀ h' tk D rvs n, Fr h₀ L h' (up m "row" (.ref D)) → News h₀ L h' ((D, lobj rvs n) :: nx) → IntsAre rvs (rowX x) → wpAny (model prog w) A (execs (lawB 1) (lawE L cd)) Q E { s with heap := h', toks := tk }) :
    wpAny (model prog w) A (execs (lawB 0) (lawE L cd)) Q E s := by
  have W₁ := W.keeps F.keep
  obtain ⟨f, hf, hfn⟩ := V.siz
  refine wpAny_execs_cons (wpAny_Assign_Name (wpAny_BinOp (Call_ (ldG W₁ hf (cwF (hfn.keeps F.keep) (args_cons (ld (v := .int x tx) F hx (args_nil ⟨fun _ _ e => e, sizes_spec (hfn.keeps F.keep) W₁ hroom ?_⟩ ))))))))
  intro r us n h₂ tk₂ hr hr' hus hk₂
  dsimp only [wants] at hr hr' hk₂ ⊢
  have F₂ := F.after hk₂
  have N₂ := News.consNew F (News.keep N fun p hp o e => hk₂ _ _ e) hr hr'
  refine Subscript_ (List_ (args_cons (List_ (args_cons (wpAny_Constant_int (args_cons (wpAny_Constant_int (args_nil (newLst ?_ )))))))))
  dsimp only
  have F₃ := F₂.push (lobj [.int 0 tk₂, .int 4 (tk₂ + 1)] 0)
  have N₃ := N₂.push F₂ (lobj [.int 0 tk₂, .int 4 (tk₂ + 1)] 0)
  have i0 : IntsAre [.int 0 tk₂, .int 4 (tk₂ + 1)] [0, 4] := .cons _ _ (.cons _ _ .nil)
  generalize [Value.int 0 tk₂, .int 4 (tk₂ + 1)] = v0 at F₃ N₃ i0 ⊢
  generalize h₂.push (lobj v0 0) = h₃ at F₃ N₃ ⊢
  generalize h₂.objs.size = a0 at N₃ ⊢
  refine args_cons (List_ (args_cons (wpAny_Constant_int (args_cons (wpAny_Constant_int (args_nil (newLst ?_ )))))))
  dsimp only
  have F₄ := F₃.push (lobj [.int 127 (tk₂ + 1 + 1), .int 2 (tk₂ + 1 + 1 + 1)] 0)
  have N₄ := N₃.push F₃ (lobj [.int 127 (tk₂ + 1 + 1), .int 2 (tk₂ + 1 + 1 + 1)] 0)
  have i1 : IntsAre [.int 127 (tk₂ + 1 + 1), .int 2 (tk₂ + 1 + 1 + 1)] [127, 2] := .cons _ _ (.cons _ _ .nil)
  generalize [Value.int 127 (tk₂ + 1 + 1), .int 2 (tk₂ + 1 + 1 + 1)] = v1 at F₄ N₄ i1 ⊢
  generalize h₃.push (lobj v1 0) = h₄ at F₄ N₄ ⊢
  generalize h₃.objs.size = a1 at N₄ ⊢
  refine args_cons (List_ (args_nil (newLst (args_nil (newLst ?_)))))
  dsimp only
  have F₅ := F₄.push (lobj [] 0)
  have N₅ := N₄.push F₄ (lobj [] 0)
  generalize h₄.push (lobj [] 0) = h₅ at F₅ N₅ ⊢
  generalize h₄.objs.size = a2 at N₅ ⊢
  have F₆ := F₅.push (lobj [.ref a0, .ref a1, .ref a2] 0)
  have N₆ := N₅.push F₅ (lobj [.ref a0, .ref a1, .ref a2] 0)
  generalize h₅.push (lobj [.ref a0, .ref a1, .ref a2] 0) = h₆ at F₆ N₆ ⊢
  generalize h₅.objs.size = a3 at N₆ ⊢
  have he := endI_range x
  have hpick : ∃ b bs, [Value.ref a0, .ref a1, .ref a2][(endI x).toNat]? = some (.ref b) ∧ (b, lobj bs 0) ∈ (a3, lobj [.ref a0, .ref a1, .ref a2] 0) :: (a2, lobj [] 0) :: (a1, lobj v1 0) :: (a0, lobj v0 0) :: (r, lobj us n) :: nx ∧ IntsAre bs (tailE (endI x)) := by
    rcases he with h | h | h <;> rw [h]
    · exact ⟨a0, v0, rfl, .tail _ (.tail _ (.tail _ (.head _))), i0⟩
    · exact ⟨a1, v1, rfl, .tail _ (.tail _ (.head _)), i1⟩
    · exact ⟨a2, [], rfl, .tail _ (.head _), .nil⟩
  obtain ⟨b, bs, hb1, hb2, hb3⟩ := hpick
  refine wpAny_BinOp (wpAny_BinOp (ld (v := .int x tx) F₆ hx (wpAny_Constant_int (floordiv_int (by decide) (wpAny_Constant_int (mod_int' (by decide) ?_)) (.inl (PyProof.noPylong_small (by decide))) ))))
  have e0 : (x.fdiv 375).fmod 3 = endI x := rfl
  rw [e0]
  refine sub_list (x := .ref b) ⟨_, N₆.get (.head _), rfl, _, rfl⟩ (by omega) (by omega) hb1 ?_
  have hul := hus.length
  have hsl := szs_len x
  have hbl := hb3.length
  have htl : (tailE (endI x)).length ≤ 2 := by unfold tailE; (repeat' split) <;> simp
  refine add_lists_ints (vs := us) (ws := bs) F₆ N₆ ⟨_, N₆.get (.tail _ (.tail _ (.tail _ (.tail _ (.head _))))), rfl, _, rfl⟩ ⟨_, N₆.get hb2, rfl, _, rfl⟩ hus hb3 (fun h₇ F₇ N₇ hi₇ => ?_) (by rw [sizeLine_eq]; omega)
  have N₇' : News h₀ L h₇ ((_, lobj (us ++ bs) 0) :: nx) := fun p hp => N₇ p (by
    rcases List.mem_cons.mp hp with rfl | hp
    · exact .head _
    · exact .tail _ (.tail _ (.tail _ (.tail _ (.tail _ (.tail _ hp))))))
  refine stU F₇ N₇' fun h₈ F₈ N₈ S₈ => ?_
  exact K h₈ _ _ _ _ F₈ N₈ hi₇
theorem lb_text {x : Int} {tx : Tok} {rd : Addr} {rvs : List Value} {kr : Nat} {ns : List Int} {Q : Flow → Shared → Prop} (W : Wd mg mb h₀) (hh : A.handled = none) (F : Fr h₀ L s.heap m) (N : News h₀ L s.heap nx) (hx : m "x" = some (.int x tx))
    (hm : m "row" = some (.ref rd)) (hr : (rd, lobj rvs kr) ∈ nx) (hi : IntsAre rvs ns) (hb : ∀ y ∈ ns, 0 ≤ y ∧ y ≤ 127) (hlen : ns.length ≤ 100)
    (K : ∀ h' tk t, Fr h₀ L h' (up m "text" (.str ⟨(sepC (sepX x) (ns.map numT)).flatten.toArray⟩ t)) → News h₀ L h' nx → wpAny (model prog w) A (execs (lawB 2) (lawE L cd)) Q E { s with heap := h', toks := tk }) :
    wpAny (model prog w) A (execs (lawB 1) (lawE L cd)) Q E s := by
  have h := fmod_range (x.fdiv 1125) (show (0 : Int) < 4 by omega)
  have h' : 0 ≤ sepI x ∧ sepI x < 4 := h
  have hitem := sep_item x
  have hdef : sepI x = (x.fdiv 1125).fmod 4 := rfl
  have hl4 : (Str.length "._-+" : Nat) = 4 := by decide
  refine wpAny_execs_cons (wpAny_Assign_Name (meth1 PySem.F.plainAttrs_str PySem.F.slot_str_join PySem.F.type_str_join PySem.F.entry_str_join (Subscript_ (wpAny_Constant_str (wpAny_BinOp (wpAny_BinOp (ld (v := .int x tx) F hx (wpAny_Constant_int (floordiv_int (by decide) (wpAny_Constant_int (mod_int' (by decide) ?_)) (.inl (PyProof.noPylong_small (by decide))) )))))))))
  rw [← hdef]
  refine item_str (by unfold fitsSsize; simp; omega) (by rw [hl4]; omega) (by rw [hl4]; omega) (fun _ => ?_)
  rw [hitem]
  have hl : s.heap.IsList rd rvs.toArray := ⟨_, N.get hr, rfl, _, rfl⟩
  refine ⟨typeIs_str _ _ _, (fun _ e => nomatch e), comp_eval hh (ld (v := .ref rd) F hm ⟨rd, rvs.toArray, fun i y _ => ∃ n t, ns[i]? = some n ∧ y = Value.str ⟨(numT n).toArray⟩ t, rfl, hl, ?_, ?_, ?_, ?_⟩)⟩
  · rw [sizeLine_eq, List.size_toArray, hi.length]; omega
  · intro I i v s' Q E' _ _ hQ; exact wpAny_pure hQ
  · intro C i v h tk m₃ E' hv hn hk hC
    obtain ⟨n, t, rfl, hn1⟩ := IntsAre.item hi (by simpa using hv)
    have hnb := hb n (List.mem_of_getElem? hn1)
    refine elt_name hn hk hC fun h₂ tk₂ hn₂ hk₂ => ?_
    have W₂ := W.keeps (Keep.trans F.keep hk₂)
    refine Call_ (ldB W₂ boot_str (cwT (args_cons (ldE hn₂ up_eq (args_nil (P.str_of_int ?_ ?_ ))))))
    · have h3 : n.natAbs < 2 ^ 7 := by omega
      by_cases hz : n.natAbs = 0
      · rw [hz]; decide
      · exact Nat.lt_of_lt_of_le ((Nat.log2_lt (by omega)).mpr h3) (by decide)
    · dsimp only
      refine ⟨h₂, _, rfl, fun _ _ e => e, fun h'' _ _ => ⟨n, tk₂, hn1, rfl⟩⟩
  · intro D h₂ tk₂ ys n hD hD' hlen' hF hk₂
    have hys : StrsAre ys (ns.map numT) := strs_of (by rw [hlen', List.size_toArray, List.length_map, hi.length]) fun i y e => by
      obtain ⟨n, t, hx, rfl⟩ := hF i y e
      exact ⟨_, t, by rw [List.getElem?_map, hx]; rfl, rfl⟩
    refine ⟨typeIs_str _ _ _, PySem.F.args_str_join_2 _ _, join_meets (c := sepX x) (vs := ys) ⟨_, hD', rfl, _, rfl⟩ hys (fun q hq => ?_) (by rw [List.length_map]; omega) fun t₃ tk₃ => ?_⟩
    · obtain ⟨y, hy, rfl⟩ := List.mem_map.mp hq
      have := (numT_ok (hb y hy)).2.2
      omega
    · have F₂ := F.after hk₂
      have N₂ := News.keep N fun p hp o e => hk₂ _ _ e
      dsimp only [wants]
      refine stU F₂ N₂ fun h₅ F₅ N₅ S₅ => ?_
      exact K h₅ _ _ F₅ N₅
end
end Mine
end
section
open PySem PySem.W PyProof.Rows PySem.Calls PySem.Spec PySem.NumText
set_option maxRecDepth 100000
set_option maxHeartbeats 4000000
namespace Mine
local macro_rules | `(tactic| walk_at "lk") => `(tactic| (repeat (first | exact up_eq | assumption | refine up_of ?_ (by decide))))
theorem ns_cut {c : Nat} (hc : isSep c) {ns : List Int} (hb : ∀ y ∈ ns, 0 ≤ y ∧ y ≤ 127) : Cut (sepC c (ns.map numT)) := by
  have := sepC_cut hc (qs := ns.map numT) (tl := []) (fun q hq => by
    obtain ⟨y, hy, rfl⟩ := List.mem_map.mp hq
    exact (numT_ok (hb y hy)).1) trivial (by simp)
  rwa [List.append_nil] at this
theorem ns_out {c : Nat} (hc : isSep c) {ns : List Int} (hb : ∀ y ∈ ns, 0 ≤ y ∧ y ≤ 127) : cvOut (sepC c (ns.map numT)) = ns.flatMap fun n => [100, n] := by
  rw [sepC_out hc (fun q hq => by
    obtain ⟨y, hy, rfl⟩ := List.mem_map.mp hq
    exact (numT_ok (hb y hy)).1), List.flatMap_map]
  clear hc
  induction ns with
  | nil => rfl
  | cons x r ih =>
    rw [List.flatMap_cons, List.flatMap_cons, ih fun y hy => hb y (.tail _ hy), (numT_ok (hb x (.head _))).2.1]
theorem ns_len {c : Nat} {ns : List Int} (hb : ∀ y ∈ ns, 0 ≤ y ∧ y ≤ 127) (hl : ns.length ≤ 5) : (sepC c (ns.map numT)).flatten.length ≤ 100 := by
  have h1 := sepC_len c (ns.map numT)
  have h2 := sum_le (qs := ns.map numT) (k := 5) fun q hq => by
    obtain ⟨y, hy, rfl⟩ := List.mem_map.mp hq
    exact (numT_ok (hb y hy)).2.2
  rw [List.length_map] at h2
  have h4 : ns.length * (5 + 1) ≤ 5 * 6 := Nat.mul_le_mul_right _ hl
  omega
section
variable {prog : Program} {w : World} {A : Around} {E : Value → Shared → Prop} {s : Shared} {mg mb : Str → Option Value} {h₀ : Heap} {L : Addr} {cd : Value} {m : Str → Option Value} {nx : List (Addr × Obj)}
theorem lb_read {ps : List (List Nat)} {t : Tok} {Q : Flow → Shared → Prop} (W : Wd mg mb h₀) (hroom : A.depth < recursionLimit) (hh : A.handled = none) (F : Fr h₀ L s.heap m) (N : News h₀ L s.heap nx)
    (hm : m "text" = some (.str ⟨ps.flatten.toArray⟩ t)) (hc : Cut ps) (hs : ps.flatten.length ≤ 600)
    (K : ∀ h' tk D us k, Fr h₀ L h' (up m "read" (.ref D)) → News h₀ L h' ((D, lobj us k) :: nx) → (∀ p ∈ nx, p.1 ≠ D) → IntsAre us (cvOut ps) → wpAny (model prog w) A (execs (lawB 3) (lawE L cd)) Q E { s with heap := h', toks := tk }) :
    wpAny (model prog w) A (execs (lawB 2) (lawE L cd)) Q E s := by
  have W₁ := W.keeps F.keep
  refine wpAny_execs_cons (wpAny_Assign_Name (Call_ (ldG W₁ W.cv (cwF W₁.fcv (args_cons (ld (v := .str ⟨ps.flatten.toArray⟩ t) F hm (args_nil ⟨fun _ _ e => e, cv_spec (ps := ps) W₁ hroom hh (by simp) hc (by simpa using hs) ?_⟩ )))))))
  intro rd us nk h₄ tk₄ hrd hrd' hus hk₄
  dsimp only [wants] at hrd hrd' hk₄ ⊢
  have F₄ := F.after hk₄
  have N₄ := News.consNew F (News.keep N fun p hp o e => hk₄ _ _ e) hrd hrd'
  refine stU F₄ N₄ fun h₅ F₅ N₅ S₅ => ?_
  exact K h₅ _ _ _ _ F₅ N₅ (fun p hp q => by have := (N p hp).1; rw [q, hrd] at this; cases this) hus
theorem lb_check {rd re : Addr} {rvs us : List Value} {kr ku : Nat} {ns : List Int} {Q : Flow → Shared → Prop} (W : Wd mg mb h₀) (hu : A.units + 10 < cLine) (hh : A.handled = none) (F : Fr h₀ L s.heap m) (N : News h₀ L s.heap nx)
    (hm1 : m "row" = some (.ref rd)) (hr1 : (rd, lobj rvs kr) ∈ nx) (hi1 : IntsAre rvs ns) (hm2 : m "read" = some (.ref re)) (hr2 : (re, lobj us ku) ∈ nx) (hi2 : IntsAre us (ns.flatMap fun n => [100, n])) (hlen : ns.length ≤ 100)
    (K : ∀ h' tk, Fr h₀ L h' m → News h₀ L h' nx → wpAny (model prog w) A (execs (lawB 4) (lawE L cd)) Q E { s with heap := h', toks := tk }) :
    wpAny (model prog w) A (execs (lawB 3) (lawE L cd)) Q E s := by
  refine wpAny_execs_cons (wpAny_If (wpAny_isTrue_BoolOp (wpAny_allTrue_Or_cons (wpAny_isTrue_Compare1 (ld (v := .ref re) F hm2 (comp_flat hh (ld (v := .ref rd) F hm1 ⟨rd, rvs, ns, rfl, ⟨_, N.get hr1, rfl, _, rfl⟩, hi1, hlen, fun D h₂ tk₂ us2 n2 hD hD' hi3 hk₂ => ?_⟩ )))))))
  have F₂ := F.after hk₂
  have N₂ := News.keep N fun p hp o e => hk₂ _ _ e
  refine ne_ints (by omega) (N₂.get hr2) hD' hi2 hi3 (wpAny_truthy_bool ?_)
  rw [if_neg (by simp)]
  refine wpAny_allTrue_Or_cons (wpAny_isTrue_Compare1 (comp_none (mg := mg) (mb := mb) hh (ld (v := .ref re) F₂ hm2 ⟨re, us, _, rfl, ⟨_, N₂.get hr2, rfl, _, rfl⟩, hi2, W.keeps F₂.keep, fun D3 h₃ tk₃ n3 hD3 hD3' hk₃ => ?_⟩ )))
  have F₃ := F₂.after hk₃
  have N₃ := News.keep N₂ fun p hp o e => hk₃ _ _ e
  refine List_ (args_nil (newLst ?_))
  have F₄ := F₃.push (lobj [] 0)
  have N₄ : News h₀ L (h₃.push (lobj [] 0)) nx := News.keep N₃ fun p hp o e => Heap.get?_push_of_some _ e
  have g4 : (h₃.push (lobj [] 0)).get? h₃.objs.size = some (lobj [] 0) := Heap.get?_push_size _ rfl
  have g3 : (h₃.push (lobj [] 0)).get? D3 = some (lobj [] n3) := Heap.get?_push_of_some _ hD3'
  dsimp only
  generalize h₃.push (lobj [] 0) = h₄ at F₄ N₄ g4 g3 ⊢
  generalize h₃.objs.size = a4 at g4 ⊢
  refine ne_ints (vs := []) (us := []) (by omega) g3 g4 .nil .nil (wpAny_truthy_bool ?_)
  rw [if_neg (by simp)]
  refine wpAny_allTrue_Or_nil ?_
  rw [if_neg (by decide)]
  refine wpAny_execs_nil ?_
  exact K h₄ _ F₄ N₄
end
end Mine
end
section
open PySem PySem.W PyProof.Rows PySem.Calls PySem.Spec PySem.NumText
set_option maxRecDepth 100000
set_option maxHeartbeats 4000000
namespace Mine
local macro_rules | `(tactic| walk_at "lk") => `(tactic| (repeat (first | exact up_eq | assumption | refine up_of ?_ (by decide))))
def wayX (x : Int) : List Nat := wayI (numI (szs x) (endI x))
theorem rowX_head (x : Int) : (rowX x)[0]? ≠ some 0 := by
  have h1 := szs_len x
  have h2 := szs_mem x
  unfold rowX
  cases hf : szs x with
  | nil => rw [hf] at h1; simp at h1
  | cons p r =>
    have := h2 p (by rw [hf]; exact .head _)
    intro e
    have e' : p = 0 := by simpa using e
    omega
theorem gout_bd (e : Int) (P : Int → Prop) (h0 : ¬ P 0) (h127 : ¬ P 127) : ∀ (S : List Int) (last : Option Int), (∀ y ∈ S, P y) → (∀ l, last = some l → P l) → ∀ k y, gout (S ++ tailE e) last k = some y → P y := by
  intro S
  induction S with
  | nil =>
    intro last _ hl k y hy
    unfold tailE at hy
    rw [List.nil_append] at hy
    split at hy
    · exact hl y hy
    · split at hy
      · exact absurd hy (by simp [gout])
      · exact absurd hy (by simp [gout])
  | cons x r ih =>
    intro last hS hl k y hy
    have hx := hS x (.head _)
    have hx0 : x ≠ 0 := fun q => h0 (q ▸ hx)
    have hx1 : x ≠ 127 := fun q => h127 (q ▸ hx)
    rw [List.cons_append] at hy
    cases k with
    | zero =>
      have : gout (x :: (r ++ tailE e)) last 0 = some x := (if_neg hx1).trans (if_neg hx0)
      rw [this] at hy
      cases hy
      exact hx
    | succ k =>
      have : gout (x :: (r ++ tailE e)) last (k + 1) = gout (r ++ tailE e) (some x) k := (if_neg hx1).trans (if_neg hx0)
      rw [this] at hy
      exact ih (some x) (fun y hy => hS y (.tail _ hy)) (fun l q => by cases q; exact hx) k y hy
theorem rowX_out (x : Int) : ∀ k y, gout (rowX x) none k = some y → 1 ≤ y ∧ y ≤ 5 :=
  gout_bd (endI x) (fun y => 1 ≤ y ∧ y ≤ 5) (by omega) (by omega) (szs x) none (szs_mem x) (fun l q => by cases q)
theorem news_appM {h₀ h : Heap} {L rs : Addr} {m : Str → Option Value} {vs : List Value} {n : Nat} {nx : List (Addr × Obj)} (F : Fr h₀ L h m) (N : News h₀ L h nx) (hr : (rs, lobj vs n) ∈ nx) (a : Value) :
    Fr h₀ L (h.update rs (Obj.mapSeq fun x => x.push a)) m ∧ News h₀ L (h.update rs (Obj.mapSeq fun x => x.push a)) ((rs, lobj (vs ++ [a]) (n + 1)) :: nx.filter fun p => p.1 != rs) :=
  news_upd (pre := []) (post := nx.filter fun p => p.1 != rs) F (fun p hp => by
    rcases List.mem_cons.mp hp with rfl | hp
    · exact N _ hr
    · exact N p (List.mem_filter.mp hp).1) (fun p hp => by cases hp) (fun p hp => by
      have := (List.mem_filter.mp hp).2
      simpa using this) app_lobj rfl
section
variable {prog : Program} {w : World} {A : Around} {E : Value → Shared → Prop} {s : Shared} {mg mb : Str → Option Value} {h₀ : Heap} {L : Addr} {cd : Value} {m : Str → Option Value} {nx : List (Addr × Obj)}
theorem lb_led {x : Int} {wl re : Addr} {wvs us : List Value} {kw ku : Nat} {Q : Flow → Shared → Prop} (W : Wd mg mb h₀) (V : Wl mg h₀) (hroom : A.depth + 1 < recursionLimit) (hh : A.handled = none) (F : Fr h₀ L s.heap m) (N : News h₀ L s.heap nx)
    (hm1 : m "ways" = some (.ref wl)) (hw : (wl, lobj wvs kw) ∈ nx) (hwl : wvs.length ≤ 100) (hm2 : m "read" = some (.ref re)) (hr2 : (re, lobj us ku) ∈ nx) (hi2 : IntsAre us ((rowX x).flatMap fun n => [100, n])) (hab : AllBare s.gens)
    (K : ∀ h' tk t gg, Fr h₀ L h' m → News h₀ L h' ((wl, lobj (wvs ++ [.str ⟨(wayX x).toArray⟩ t]) (kw + 1)) :: nx.filter fun p => p.1 != wl) → AllBare gg → wpAny (model prog w) A (execs (lawB 5) (lawE L cd)) Q E { s with heap := h', toks := tk, gens := gg }) :
    wpAny (model prog w) A (execs (lawB 4) (lawE L cd)) Q E s := by
  have W₁ := W.keeps F.keep
  obtain ⟨f, hf, hfn⟩ := V.led
  have hwd := N.get hw
  have hul : us.length = 2 * (rowX x).length := by rw [hi2.length, flat2_len]
  have hrl := rowX_len x
  refine wpAny_execs_cons (wpAny_Expr_any (meth1 PySem.F.plainAttrs_list PySem.F.slot_list_append ty_append PySem.F.entry_list_append (ld (v := .ref wl) F hm1 ⟨⟨_, hwd, rfl⟩, fun a e => ⟨_, (Value.ref.inj e) ▸ hwd, rfl⟩, ?_⟩)))
  refine Call_ (ldG W₁ hf (cwF (hfn.keeps F.keep) (args_cons (Subscript_ (ld (v := .ref re) F hm2 (sub_slice2 (a := 1) F N ⟨_, N.get hr2, rfl, _, rfl⟩ hul (.inr rfl) (by omega) fun h₂ D tk₂ hk₂ hD F₂ N₂ => ?_ ))))))
  have W₂ := W.keeps F₂.keep
  refine args_nil ⟨hk₂, led_spec (ns := rowX x) (hfn.keeps F₂.keep) W₂ hroom hh ⟨_, N₂.get (.head _), rfl, _, rfl⟩ (picks2 hi2).2 (rowX_head x) (rowX_out x) hab ?_⟩
  intro h₃ tk₃ t₃ gg hk₃ hgg
  dsimp only [wants] at hk₃ ⊢
  have F₃ := F₂.after hk₃
  have N₃ : News h₀ L h₃ nx := News.keep N fun p hp o e => hk₃ _ _ (hk₂ _ _ e)
  have e1 : ledI (rowX x) = wayX x := led_eq x
  rw [e1]
  refine ⟨⟨_, N₃.get hw, rfl⟩, PySem.F.args_list_append_2 _ _, _, list_append wl wvs.toArray kw _ (by rw [sizeLine_eq, List.size_toArray]; omega), N₃.get hw, ?_⟩
  obtain ⟨F₄, N₄⟩ := news_appM F₃ N₃ hw (.str ⟨(wayX x).toArray⟩ t₃)
  dsimp only
  exact K _ _ t₃ gg F₄ N₄ hgg
theorem lb_same {x : Int} {tx t : Tok} {wl : Addr} {wvs : List Value} {kw : Nat} {Q : Flow → Shared → Prop} (W : Wd mg mb h₀) (V : Wl mg h₀) (hroom : A.depth + 1 < recursionLimit) (hh : A.handled = none) (F : Fr h₀ L s.heap m) (N : News h₀ L s.heap nx)
    (hx : m "x" = some (.int x tx)) (hm1 : m "ways" = some (.ref wl)) (hw : (wl, lobj (wvs ++ [.str ⟨(wayX x).toArray⟩ t]) kw) ∈ nx)
    (K : ∀ h' tk, Fr h₀ L h' m → News h₀ L h' nx → wpAny (model prog w) A (execs (lawB 6) (lawE L cd)) Q E { s with heap := h', toks := tk }) :
    wpAny (model prog w) A (execs (lawB 5) (lawE L cd)) Q E s := by
  have W₁ := W.keeps F.keep
  obtain ⟨fw, hfw, hfwn⟩ := V.way
  obtain ⟨fn, hfn, hfnn⟩ := V.num
  obtain ⟨fs, hfs, hfsn⟩ := V.siz
  obtain ⟨fd, hfd, hfdn⟩ := V.sid
  refine wpAny_execs_cons (wpAny_If (wpAny_isTrue_Compare1 (Subscript_ (ld (v := .ref wl) F hm1 (UnaryOp_ (wpAny_Constant_int (neg_int (sub_last (x := .str ⟨(wayX x).toArray⟩ t) ⟨_, N.get hw, rfl, _, rfl⟩ (by simp) (by simp) ?_ ))))))))
  refine Call_ (ldG W₁ hfw (cwF (hfwn.keeps F.keep) (args_cons (Call_ (ldG W₁ hfn (cwF (hfnn.keeps F.keep) (args_cons (ld (v := .int x tx) F hx (args_nil ⟨fun _ _ e => e, number_spec (hfnn.keeps F.keep) (hfsn.keeps F.keep) hfs W₁ hroom hh ?_⟩ )))))))))
  intro r us n h₂ tk₂ hr hr' hi hk₂
  dsimp only [wants] at hr hr' hk₂ ⊢
  have F₂ := F.after hk₂
  have W₂ := W.keeps F₂.keep
  obtain ⟨b1, b2⟩ := num_ok x
  refine args_nil ⟨hk₂, way_spec (num := numI (szs x) (endI x)) (hfwn.keeps F₂.keep) (hfdn.keeps F₂.keep) hfd W₂ hroom hr' hi b2 b1 ?_⟩
  intro h₃ tk₃ t₃ hk₃
  dsimp only [wants] at hk₃ ⊢
  refine PyProof.Rows.ne_str (wpAny_truthy_bool ?_)
  have e1 : wayI (numI (szs x) (endI x)) = wayX x := rfl
  rw [e1, if_neg (by simp)]
  refine wpAny_execs_nil ?_
  exact K h₃ _ (F₂.after hk₃) (News.keep N fun p hp o e => hk₃ _ _ (hk₂ _ _ e))
end
end Mine
end
section
open PySem PySem.W PyProof.Rows PySem.Calls PySem.Spec PySem.NumText
set_option maxRecDepth 100000
set_option maxHeartbeats 4000000
namespace Mine
local macro_rules | `(tactic| walk_at "lk") => `(tactic| (repeat (first | exact up_eq | assumption | refine up_of ?_ (by decide))))
theorem cut_ahead {ps : List (List Nat)} (h : Cut ps) : Cut ([48] :: [46] :: ps) :=
  ⟨.inr ⟨⟨by simp, by simp [isDig]⟩, by simp [isDig]⟩, .inl ⟨46, rfl, .inl rfl⟩, h⟩
theorem out_ahead {ps : List (List Nat)} {ns : List Int} (h : cvOut ps = ns.flatMap fun n => [100, n]) : cvOut ([48] :: [46] :: ps) = (0 :: ns).flatMap fun n => [100, n] := by
  rw [List.flatMap_cons, ← h]; rfl
section
variable {prog : Program} {w : World} {A : Around} {E : Value → Shared → Prop} {s : Shared} {mg mb : Str → Option Value} {h₀ : Heap} {L : Addr} {cd : Value} {m : Str → Option Value} {nx : List (Addr × Obj)}
theorem lb_ahead {ps : List (List Nat)} {ns : List Int} {t : Tok} {Q : Flow → Shared → Prop} (W : Wd mg mb h₀) (hroom : A.depth < recursionLimit) (hh : A.handled = none) (F : Fr h₀ L s.heap m) (N : News h₀ L s.heap nx)
    (hm : m "text" = some (.str ⟨ps.flatten.toArray⟩ t)) (hc : Cut ps) (hcv : cvOut ps = ns.flatMap fun n => [100, n]) (hs : ps.flatten.length ≤ 500)
    (K : ∀ h' tk D us k, Fr h₀ L h' (up m "ahead" (.ref D)) → News h₀ L h' ((D, lobj us k) :: nx) → IntsAre us ((0 :: ns).flatMap fun n => [100, n]) → wpAny (model prog w) A (execs (lawB 7) (lawE L cd)) Q E { s with heap := h', toks := tk }) :
    wpAny (model prog w) A (execs (lawB 6) (lawE L cd)) Q E s := by
  have W₁ := W.keeps F.keep
  refine wpAny_execs_cons (wpAny_Assign_Name (Call_ (ldG W₁ W.cv (cwF W₁.fcv (args_cons (wpAny_BinOp (wpAny_Constant_str ?_ )))))))
  refine ld (v := .str ⟨ps.flatten.toArray⟩ t) F hm ?_
  refine PyProof.Rows.add_str (fun t₂ tk₂ => args_nil ⟨fun _ _ e => e, ?_⟩) ?_
  · have e0 : ((Str.ofString "0.") ++ (⟨ps.flatten.toArray⟩ : Str)).cps.toList = ([48] :: [46] :: ps).flatten := by
      rw [Str.cps_append, Array.toList_append]
      rfl
    refine cv_spec (ps := [48] :: [46] :: ps) W₁ hroom hh e0 (cut_ahead hc) ?_ ?_
    · rw [← Array.length_toList, e0]
      simp only [List.flatten_cons, List.length_append, List.length_cons, List.length_nil]
      omega
    intro rd us nk h₄ tk₄ hrd hrd' hus hk₄
    rw [out_ahead hcv] at hus
    dsimp only [wants] at hrd hrd' hk₄ ⊢
    have F₄ := F.after hk₄
    have N₄ := News.consNew F (News.keep N fun p hp o e => hk₄ _ _ e) hrd hrd'
    refine stU F₄ N₄ fun h₅ F₅ N₅ S₅ => ?_
    exact K h₅ _ _ _ _ F₅ N₅ hus
  · show (Str.ofString "0.").cps.size + ps.flatten.toArray.size ≤ _
    have e2 : (Str.ofString "0.").cps.size = 2 := by decide
    rw [sizeLine_eq, e2, List.size_toArray]
    omega
theorem lb_aheadOk {re ra : Addr} {us vs : List Value} {ku kv : Nat} {ns : List Int} {Q : Flow → Shared → Prop} (hu : A.units + 10 < cLine) (F : Fr h₀ L s.heap m) (N : News h₀ L s.heap nx)
    (hm1 : m "read" = some (.ref re)) (hr1 : (re, lobj us ku) ∈ nx) (hi1 : IntsAre us (ns.flatMap fun n => [100, n])) (hm2 : m "ahead" = some (.ref ra)) (hr2 : (ra, lobj vs kv) ∈ nx) (hi2 : IntsAre vs ((0 :: ns).flatMap fun n => [100, n])) (hlen : ns.length ≤ 100)
    (K : ∀ h' tk, Fr h₀ L h' m → News h₀ L h' nx → wpAny (model prog w) A (execs (lawB 8) (lawE L cd)) Q E { s with heap := h', toks := tk }) :
    wpAny (model prog w) A (execs (lawB 7) (lawE L cd)) Q E s := by
  have hul : us.length = 2 * ns.length := by rw [hi1.length, flat2_len]
  refine wpAny_execs_cons (wpAny_If (wpAny_isTrue_Compare1 (ld (v := .ref ra) F hm2 (wpAny_BinOp (List_ (args_cons (wpAny_Constant_int (args_cons (wpAny_Constant_int (args_nil (newLst ?_ )))))))))))
  dsimp only
  have F₃ := F.push (lobj [.int 100 s.toks, .int 0 (s.toks + 1)] 0)
  have N₃ := N.push F (lobj [.int 100 s.toks, .int 0 (s.toks + 1)] 0)
  have i0 : IntsAre [.int 100 s.toks, .int 0 (s.toks + 1)] [100, 0] := .cons _ _ (.cons _ _ .nil)
  have l0 : [Value.int 100 s.toks, .int 0 (s.toks + 1)].length = 2 := rfl
  generalize [Value.int 100 s.toks, .int 0 (s.toks + 1)] = v0 at F₃ N₃ i0 l0 ⊢
  generalize s.heap.push (lobj v0 0) = h₃ at F₃ N₃ ⊢
  generalize s.heap.objs.size = a0 at N₃ ⊢
  refine ld (v := .ref re) F₃ hm1 ?_
  refine add_lists_ints (vs := v0) (ws := us) F₃ N₃ ⟨_, N₃.get (.head _), rfl, _, rfl⟩ ⟨_, N₃.get (.tail _ hr1), rfl, _, rfl⟩ i0 hi1 (fun h₄ F₄ N₄ hi₄ => ?_) (by rw [sizeLine_eq, flat2_len]; simp only [List.length_cons, List.length_nil]; omega)
  refine ne_ints (by omega) (N₄.get (.tail _ (.tail _ hr2))) (N₄.get (.head _)) hi2 hi₄ (wpAny_truthy_bool ?_)
  rw [if_neg (by simp)]
  refine wpAny_execs_nil ?_
  exact K h₄ _ F₄ fun p hp => N₄ p (.tail _ (.tail _ hp))
end
end Mine
end
section
open PySem PySem.W PyProof.Rows PySem.Calls PySem.Spec PySem.NumText
set_option maxRecDepth 100000
set_option maxHeartbeats 4000000
namespace Mine
local macro_rules | `(tactic| walk_at "lk") => `(tactic| (repeat (first | exact up_eq | assumption | refine up_of ?_ (by decide))))
section
variable {prog : Program} {w : World} {A₀ : Around} {E : Value → Shared → Prop} {s : Shared} {mg mb : Str → Option Value} {h₀ : Heap} {L : Addr} {cd : Value} {m : Str → Option Value} {nx : List (Addr × Obj)}
theorem lb_walk {ra : Addr} {vs : List Value} {kv : Nat} {ns : List Int} {Q : Flow → Shared → Prop} (W : Wd mg mb h₀) (B : Below A₀ h₀ [] h₀) (hroom : A₀.depth + 3 < recursionLimit) (hu : A₀.units + 200 < cLine) (hh : A₀.handled = none) (F : Fr h₀ L s.heap m) (N : News h₀ L s.heap nx)
    (hm : m "ahead" = some (.ref ra)) (hr : (ra, lobj vs kv) ∈ nx) (hi : IntsAre vs ((0 :: ns).flatMap fun n => [100, n])) (hnl : ns.length ≤ 100) (hab : AllBare s.gens)
    (K : ∀ h' m' tk gg, Fr h₀ L h' m' → SameOff ["walk", "refused"] m m' → News h₀ L h' nx → AllBare gg → Q .next { s with heap := h', toks := tk, gens := gg }) :
    wpAny (model prog w) (A₀.deeper (lawE L cd)) (execs (lawB 8) (lawE L cd)) Q E s := by
  have W₁ := W.keeps F.keep
  have hh' : (A₀.deeper (lawE L cd)).handled = none := hh
  have hul : vs.length = 2 * (0 :: ns).length := by rw [hi.length, flat2_len]
  refine wpAny_execs_cons (wpAny_Assign_Name (Call_ (ldG W₁ W.grp (cwF W₁.fgrp (args_cons (Subscript_ (ld (v := .ref ra) F hm (sub_slice2 (a := 1) F N ⟨_, N.get hr, rfl, _, rfl⟩ hul (.inr rfl) (by rw [hul, List.length_cons]; omega) fun h₂ D tk₂ hk₂ hD F₂ N₂ => ?_ ))))))))
  have W₂ := W.keeps F₂.keep
  refine args_nil ⟨hk₂, grp_call W₂ (by show A₀.depth + 1 < recursionLimit; omega) ?_⟩
  intro gcd h₃ tk₃ ob hns₃ hk₃ hsz₃ hgen hfree
  dsimp only [wants] at hns₃ hk₃ hsz₃ hgen ⊢
  have hLg : L < h₂.objs.size := F₂.ns.lt
  have hDg : D < h₂.objs.size := Heap.lt_size (N₂.get (.head _))
  have hxg : ∀ p ∈ nx, p.1 < h₂.objs.size := fun p hp => Heap.lt_size (N₂ p (.tail _ hp)).1
  have n0g : h₀.get? h₂.objs.size = none := none_of_keep F₂.keep (none_of_ge (Nat.le_refl _))
  have hk₄ : Keep h₂ (h₃.push ob) := Keep.trans hk₃ (Keep.push _ _)
  have F₄ := F₂.after hk₄
  have N₄ : News h₀ L (h₃.push ob) ((D, lobj ((List.range (0 :: ns).length).filterMap fun k => vs[2 * k + 1]?) 0) :: nx) := News.keep N₂ fun p hp o e => hk₄ _ _ e
  have hns₄ : (h₃.push ob).Ns h₂.objs.size (up m0 "grouping" (.ref D)) := hns₃.push _
  generalize h₃.push ob = h₄ at hgen hk₄ F₄ N₄ hns₄ ⊢
  generalize hgL : h₂.objs.size = gL at *
  refine stU F₄ N₄ fun h₅ F₅ N₅ S₅ => ?_
  dsimp only at S₅ ⊢
  have hLgL : L ≠ gL := Nat.ne_of_lt hLg
  have hns₅ : h₅.Ns gL (up m0 "grouping" (.ref D)) := hns₄.sameBut S₅ (Ne.symm hLgL)
  obtain ⟨oa, nm, qn, hoa, hgc, hgd, hge⟩ := id hgen
  have hagL : gL + 1 ≠ L := Nat.ne_of_gt (Nat.lt_succ_of_lt hLg)
  have hgen₅ : h₅.IsGen (gL + 1) s.gens.size := ⟨oa, nm, qn, S₅.extBut _ _ hagL hoa, hgc, hgd, hge⟩
  have hoa₅ : h₅.get? (gL + 1) = some oa := S₅.extBut _ _ hagL hoa
  have him := (picks2 hi).2
  generalize ((List.range (0 :: ns).length).filterMap fun k => vs[2 * k + 1]?) = gv at N₅ him
  have W₅ := W.keeps F₅.keep
  have B₅ := B.push (a := 105) (name := "law") (scope := scpP 16) (cd := cd) F₅
  have hAf : (A₀.deeper (lawE L cd)).frames = some [lawE L cd] := B₅.stack
  have inS : ∀ {b : Addr}, b ∈ [L, gL] ↔ b = L ∨ b = gL := fun {b} => by simp
  have kS : Keep (offs h₅ [L, gL]) h₅ := fun b o e => (offs_sub e).2
  have offK : ∀ {b o}, b ≠ L → b ≠ gL → h₅.get? b = some o → (offs h₅ [L, gL]).get? b = some o := fun h1 h2 e => (offs_not (fun q => by rcases inS.mp q with q | q; exact h1 q; exact h2 q)).trans e
  have n0L : h₀.get? L = none := none_of_ge F.above
  have sub : ∀ b o, h₀.get? b = some o → (offs h₅ [L, gL]).get? b = some o := fun b o e => offK (fun q => by rw [q, n0L] at e; cases e) (fun q => by rw [q, n0g] at e; cases e) (F₅.keep _ _ e)
  have fun₅ : h₅.FunFrames (offs h₅ [L, gL]) [lawE L cd] :=
    .cons (by show (scpP 16).kind ≠ .module; decide) rfl F₅.ns (offs_mem (inS.mpr (.inl rfl))) trivial
  refine wpAny_execs_cons (wpAny_Try_except ?_)
  refine wpAny_execs_cons (wpAny_For (ld (v := .ref (gL + 1)) F₅ up_eq (wpAny_pyIter_gen hgen₅ ?_)))
  refine codeAny_forLoop (fun _ s' => s' = { s with heap := h₅, toks := _, gens := s.gens.push (.fresh (.func (bdyP 4) (genv gL gcd))) }) ?_ 0 rfl
  rintro _ s' rfl
  refine pyNext_E (base := offs h₅ [L, gL]) (outer := [lawE L cd]) (L := gL) (g := s.gens.size) (n := 1) (gs := .fresh (.func (bdyP 4) (genv gL gcd))) hh' W₅.lim (by show A₀.depth + 1 < recursionLimit; omega) hgen₅ (by simp) hoa₅ (offK hagL (Nat.succ_ne_self _) hoa₅) hgd ?_ ?_
  · exact goes_raise (hB := offs h₅ [L, gL]) (W.keeps sub) (offs_mem (inS.mpr (.inr rfl))) hh' (l := D) (vs := gv) (ns := 0 :: ns) ⟨_, offK (N₅ _ (.head _)).2.1 (Nat.ne_of_lt hDg) (N₅.get (.head _)), rfl, _, rfl⟩ him rfl kS hns₅ up_eq hAf (fun _ _ e => e) fun₅
  · intro e te tt h₆ tk₆ fly tup ups
    dsimp only at ups ⊢
    refine wpAny_looks_onW hAf rfl fly fun h₇ held₇ ups₇ => ?_
    refine backW (l := [lawE L cd]) rfl held₇ fun h₈ held₈ ups₈ => ?_
    refine wpAny_noteFrame_againW rfl held₈.2.2.2 ?_
    refine wpAny_landsW held₈ fun h₉ fly₉ ups₉ => ?_
    have ups69 : h₆.UpToSlots h₉ := ups₇.trans (ups₈.trans ups₉)
    have st₉ : h₀.StaysIn h₉ := fun b o eb => fly₉.1 b o (sub b o eb)
    obtain ⟨oL, es, ep, hoL, hLd, hLr⟩ := id F₅.ns
    have nsL : h₉.Ns L (up m "walk" (.ref (gL + 1))) := by
      obtain ⟨sl, e1⟩ := ups L oL hLgL hoL (fun vs q => by rw [hLd] at q; cases q)
      exact ups69.ns ⟨_, es, ep, e1, hLd, hLr⟩
    have F₉ : Fr h₀ L h₉ (up m "walk" (.ref (gL + 1))) := ⟨nsL, st₉, F.above⟩
    have N₉ : News h₀ L h₉ nx := fun p hp => ⟨fly₉.1 _ _ (offK (N₅ p (.tail _ hp)).2.1 (Nat.ne_of_lt (hxg p hp)) (N₅ p (.tail _ hp)).1), (N₅ p (.tail _ hp)).2⟩
    have W₉ := W.keeps F₉.keep
    obtain ⟨ob, hob, hobc⟩ := fly₉.there
    refine wpAny_handleBy_builtin_as (X := "ValueError") (T := "ValueError") (b := true) PySem.F.isExc_ValueError PySem.F.notTuple_ValueError (by rw [isSubtype_type]; kernel_rfl) (ldB W₉ boot_VE ⟨rfl, ⟨ob, hob, hobc⟩, ?_⟩)
    rw [if_pos rfl]
    refine lands_againW fly₉ fun hX flyX upsX => ?_
    have FX := F₉.of_stays (fun b o eb => flyX.1 b o (sub b o eb)) upsX
    have NX : News h₀ L hX nx := fun p hp => ⟨flyX.1 _ _ (offK (N₅ p (.tail _ hp)).2.1 (Nat.ne_of_lt (hxg p hp)) (N₅ p (.tail _ hp)).1), (N₅ p (.tail _ hp)).2⟩
    have tupX := (tup.of_slots ups69).of_slots upsX
    obtain ⟨oe, ws, hoe, hoec, hoed, hoe0⟩ := flyX.first
    refine stU FX NX fun hA FA NA SA => ?_
    dsimp only at SA ⊢
    have WA := W.keeps FA.keep
    obtain ⟨oL2, _, _, hoL2, hLd2, _⟩ := id FX.ns
    have heL : e ≠ L := fun q => by rw [q, hoL2] at hoe; cases hoe; rw [hLd2] at hoed; cases hoed
    obtain ⟨ot, nt, hot, hotc, hotd⟩ := tupX
    have htL : te ≠ L := fun q => by rw [q, hoL2] at hot; cases hot; rw [hLd2] at hotd; cases hotd
    have xA : hA.ExcAt e "ValueError" (.ref te) := ⟨oe, ws, SA.extBut _ _ heL hoe, hoec, hoed, hoe0⟩
    have tA : hA.TupAt te [.str "invalid grouping" tt] := ⟨ot, nt, SA.extBut _ _ htL hot, hotc, hotd⟩
    refine wpAny_execs_cons (wpAny_If (wpAny_isTrue_Compare1 (Call_ (ldB WA boot_str (cwT (args_cons (ld (v := .ref e) FA up_eq (args_nil (P.str_of_exc_one PySem.F.excStr_ValueError ?_ xA tA (wpAny_Constant_str (PyProof.Rows.ne_str (wpAny_truthy_bool ?_ ))))))))))))
    · rw [Around.mark_units, Around.deeper_units]; omega
    rw [if_neg (by simp)]
    refine wpAny_execs_nil (wpAny_execs_nil ?_)
    refine name_goes_keeps FA NA fun hB v FB NB => ?_
    refine wpAny_execs_nil ?_
    refine K hB _ _ _ FB (fun x hx => ?_) NB (allBare_set (allBare_set (hab.push rfl) rfl) rfl)
    show (if x = "refused" then v else up (up m "walk" (.ref (gL + 1))) "refused" (.ref e) x) = m x
    have h1 : x ≠ "refused" := fun q => hx (by rw [q]; exact .tail _ (.head _))
    have h2 : x ≠ "walk" := fun q => hx (by rw [q]; exact .head _)
    rw [if_neg h1]
    exact (if_neg h1).trans (if_neg h2)
end
end Mine
end
section
open PySem PySem.W PyProof.Rows PySem.Calls PySem.Spec PySem.NumText
set_option maxRecDepth 100000
set_option maxHeartbeats 4000000
namespace Mine
local macro_rules | `(tactic| walk_at "lk") => `(tactic| (repeat (first | exact up_eq | assumption | refine up_of ?_ (by decide))))
def TurnN (h₀ : Heap) (L : Addr) (R : Result → Shared → Prop) (J : (Str → Option Value) → List (Addr × Obj) → Array GenState → Prop) (I : Addr) (it : Obj) (s : Shared) (f : Flow) (s' : Shared) : Prop := match f with
  | .ret v => R (.ok (.ret v)) s'
  | .brk => R (.ok .next) s'
  | _ => ∃ h' tk' g' m₂ nx₂, s' = { s with heap := h', toks := tk', gens := g' } ∧ Fr h₀ L h' m₂ ∧ News h₀ L h' ((I, it) :: nx₂) ∧ J m₂ nx₂ g'
section
variable {prog : Program} {w : World} {A : Around} {E : Value → Shared → Prop} {s : Shared} {env : Env} {h₀ : Heap}
/-- a loop over a list that is made in the call: what is alive is told by its objects alone -/
theorem for_listN {R : Result → Shared → Prop} {x : Str} {px : Pos} {body : List Stmt} {m₀ : Str → Option Value} {nx₀ : List (Addr × Obj)} {l : Addr} {vs : List Value} {kl : Nat} (hh : A.handled = none)
    (J : Nat → (Str → Option Value) → List (Addr × Obj) → Array GenState → Prop) (hJl : ∀ i m nx g, J i m nx g → (l, lobj vs kl) ∈ nx) (hJo : ∀ i m nx g, J i m nx g → ∀ p ∈ nx, ∃ us n, p.2 = lobj us n)
    (F : Fr h₀ env.locals s.heap m₀) (N : News h₀ env.locals s.heap nx₀) (hJ : J 0 m₀ nx₀ s.gens)
    (turn : ∀ I it i v m₁ nx h tk g, vs[i]? = some v → J i m₁ nx g → Fr h₀ env.locals h (up m₁ x v) → News h₀ env.locals h ((I, it) :: nx) → (∃ d, it.data = .fields d) → ∀ E',
      wpAny (model prog w) A (execs body env) (TurnN h₀ env.locals R (J (i + 1)) I it s) E' { s with heap := h, toks := tk, gens := g })
    (done : ∀ m₁ nx h tk g, J vs.length m₁ nx g → Fr h₀ env.locals h m₁ → News h₀ env.locals h nx → R (.ok .next) { s with heap := h, toks := tk, gens := g })
    (hkx : env.kindOf x = some .local := by rfl) (hp : (env.scope.kind == .class || (env.scope.kind == .module && env.locals != env.globals)) = false := by rfl) :
    wpAny (model prog w) A (pyIter (.ref l)) (fun it s₂ => codeAny (model prog w) A (.forLoop (.Name x px) it body [] env) R s₂) E s := by
  have hl : s.heap.IsList l vs.toArray := ⟨_, N.get (hJl _ _ _ _ hJ), rfl, _, rfl⟩
  refine wpAny_pyIter_list hl ?_
  have hLI : env.locals ≠ s.heap.objs.size := Nat.ne_of_lt F.ns.lt
  have h0I : h₀.get? s.heap.objs.size = none := none_of_keep F.keep (none_of_ge (Nat.le_refl _))
  have hit₀ : (s.heap.push { cls := .type "list_iterator", data := .fields #[.ref l, .int 0 0] }).IsListIter s.heap.objs.size l 0 := ⟨_, Heap.get?_push_size _ rfl, rfl, rfl⟩
  have F₀ := F.push { cls := .type "list_iterator", data := .fields #[.ref l, .int 0 0] }
  have N₀ : News h₀ env.locals (s.heap.push { cls := .type "list_iterator", data := .fields #[.ref l, .int 0 0] }) nx₀ := News.keep N fun p hp o e => Heap.get?_push_of_some _ e
  generalize s.heap.push { cls := .type "list_iterator", data := .fields #[.ref l, .int 0 0] } = H at hit₀ F₀ N₀ ⊢
  generalize s.heap.objs.size = I at hLI h0I hit₀ ⊢
  refine codeAny_forLoop (fun k s' => ∃ i h tk g m₁ nx, s' = { s with heap := h, toks := tk, gens := g } ∧ i ≤ vs.length ∧ k = vs.length + 1 - i ∧ h.IsListIter I l i ∧ J i m₁ nx g ∧ Fr h₀ env.locals h m₁ ∧ News h₀ env.locals h nx) ?_ (vs.length + 1)
    ⟨0, H, s.toks, s.gens, m₀, nx₀, rfl, Nat.zero_le _, rfl, hit₀, hJ, F₀, N₀⟩
  rintro k s' ⟨i, h, tk, g, m₁, nx, rfl, hi, rfl, hit, hJi, Fi, Ni⟩
  have hl' : h.IsList l vs.toArray := ⟨_, Ni.get (hJl _ _ _ _ hJi), rfl, _, rfl⟩
  have off : ∀ p ∈ nx, p.1 ≠ I := fun p hp q => by
    obtain ⟨us, n, e⟩ := hJo _ _ _ _ hJi p hp
    obtain ⟨o, ho, _, hd⟩ := id hit
    have := (Ni p hp).1
    rw [q, ho, e] at this
    cases this
    cases hd
  cases hv : vs.toArray[i]? with
  | none =>
    have hin : i = vs.length := by
      have : vs.length ≤ i := by simpa using hv
      omega
    subst hin
    refine wpAny_pyNext_list_end hh hit hl' hv fun h₂ he₂ => wpAny_execs_nil ?_
    exact done m₁ nx h₂ tk g hJi ⟨Fi.ns.at' fun o e => he₂ _ o hLI e, fun b o e => he₂ b o (fun q => by rw [q, h0I] at e; cases e) (Fi.keep b o e), Fi.above⟩ (News.keep Ni fun p hp o e => he₂ _ _ (off p hp) e)
  | some v =>
    have hlt : i < vs.length := by simpa using (Array.getElem?_eq_some_iff.mp hv).1
    refine wpAny_pyNext_list_item hit hl' hv fun h₂ hit₂ hs₂ => ?_
    have F₂ : Fr h₀ env.locals h₂ m₁ := Fi.change hs₂ (Ne.symm hLI) h0I
    have N₂ : News h₀ env.locals h₂ nx := News.keep Ni fun p hp o e => hs₂.extBut _ _ (off p hp) e
    refine wpAny_assign_Name (wpAny_storeName_local hkx F₂.ns (fun h₃ hn₃ hs₃ => ?_) hp)
    have F₃ : Fr h₀ env.locals h₃ (up m₁ x v) := F₂.set hn₃ hs₃
    have N₃ : News h₀ env.locals h₃ nx := N₂.set hs₃
    obtain ⟨it, hoI, hcI, hdI⟩ := id hit₂
    have N₄ : News h₀ env.locals h₃ ((I, it) :: nx) := fun p hp => by
      rcases List.mem_cons.mp hp with rfl | hp
      · exact ⟨hs₃.extBut _ _ (Ne.symm hLI) hoI, Ne.symm hLI, h0I⟩
      · exact N₃ p hp
    refine wpAny_mono (turn I it i v m₁ nx h₃ _ g (by simpa using hv) hJi F₃ N₄ ⟨_, hdI⟩ _) (fun f s₃ ht => ?_) fun _ _ e => e
    have fin : (∃ h' tk' g' m₂ nx₂, s₃ = { s with heap := h', toks := tk', gens := g' } ∧ Fr h₀ env.locals h' m₂ ∧ News h₀ env.locals h' ((I, it) :: nx₂) ∧ J (i + 1) m₂ nx₂ g') →
        ∃ mm, mm < vs.length + 1 - i ∧ ∃ i h tk g m₁ nx, s₃ = { s with heap := h, toks := tk, gens := g } ∧ i ≤ vs.length ∧ mm = vs.length + 1 - i ∧ h.IsListIter I l i ∧ J i m₁ nx g ∧ Fr h₀ env.locals h m₁ ∧ News h₀ env.locals h nx := by
      rintro ⟨h', tk', g', m₂, nx₂, rfl, F', N', hJ'⟩
      exact ⟨vs.length + 1 - (i + 1), by omega, i + 1, h', tk', g', m₂, nx₂, rfl, hlt, rfl, ⟨it, N'.get (.head _), hcI, hdI⟩, hJ', F', fun p hp => N' p (.tail _ hp)⟩
    cases f with
    | ret v => exact ht
    | brk => exact ht
    | next => exact fin ht
    | cont => exact fin ht
end
def drawnL (script : List Int) : List Int := [2380, 349, 1499, 4124, 751] ++ script.take 3
section
variable {prog : Program} {w : World} {A : Around} {E : Value → Shared → Prop} {s : Shared} {mg mb : Str → Option Value} {h₀ : Heap} {L : Addr} {cd : Value} {m : Str → Option Value}
theorem law_drawn {sc : Addr} {svs : List Value} {script : List Int} {Q : Flow → Shared → Prop} (F : Fr h₀ L s.heap m) (hsc : m "script" = some (.ref sc)) (hl : h₀.IsList sc svs.toArray) (hi : IntsAre svs script) (hlen : script.length ≤ 63)
    (K : ∀ h' tk dr dvs, Fr h₀ L h' (up m "drawn" (.ref dr)) → News h₀ L h' [(dr, lobj dvs 0)] → IntsAre dvs (drawnL script) → wpAny (model prog w) A (execs (lawS 1) (lawE L cd)) Q E { s with heap := h', toks := tk }) :
    wpAny (model prog w) A (execs (lawS 0) (lawE L cd)) Q E s := by
  refine wpAny_execs_cons (wpAny_Assign_Name (wpAny_BinOp (List_ (args_cons (wpAny_Constant_int (args_cons (wpAny_Constant_int (args_cons (wpAny_Constant_int (args_cons (wpAny_Constant_int (args_cons (wpAny_Constant_int (args_nil (newLst ?_ )))))))))))))))
  dsimp only
  have hi1 : ∀ a b c d e, IntsAre [.int 2380 a, .int 349 b, .int 1499 c, .int 4124 d, .int 751 e] [2380, 349, 1499, 4124, 751] := fun _ _ _ _ _ => .cons _ _ (.cons _ _ (.cons _ _ (.cons _ _ (.cons _ _ .nil))))
  have hi1 := hi1 s.toks (s.toks + 1) (s.toks + 1 + 1) (s.toks + 1 + 1 + 1) (s.toks + 1 + 1 + 1 + 1)
  have F₁ := F.push (lobj [.int 2380 s.toks, .int 349 (s.toks + 1), .int 1499 (s.toks + 1 + 1), .int 4124 (s.toks + 1 + 1 + 1), .int 751 (s.toks + 1 + 1 + 1 + 1)] 0)
  have N₁ := (News.nil (h₀ := h₀) (L := L) (h := s.heap)).push F (lobj [.int 2380 s.toks, .int 349 (s.toks + 1), .int 1499 (s.toks + 1 + 1), .int 4124 (s.toks + 1 + 1 + 1), .int 751 (s.toks + 1 + 1 + 1 + 1)] 0)
  generalize [Value.int 2380 s.toks, .int 349 (s.toks + 1), .int 1499 (s.toks + 1 + 1), .int 4124 (s.toks + 1 + 1 + 1), .int 751 (s.toks + 1 + 1 + 1 + 1)] = avs at F₁ N₁ hi1 ⊢
  generalize s.heap.push (lobj avs 0) = h₁ at F₁ N₁ ⊢
  generalize s.heap.objs.size = a1 at N₁ ⊢
  refine Subscript_ (ld (v := .ref sc) F₁ hsc (wpAny_Slice (wpAny_evalPart_none (wpAny_evalPart_some (wpAny_Constant_int (wpAny_evalPart_none ?_))))))
  refine sub_slice (vs := svs) (lo := none) (hi := some 3) (st := none) (hl.at fun o e => F₁.keep _ o e) .none (.int _ _) .none (by simp) (by rw [hi.length]; omega) fun h₂ D hk₂ hD hD' => ?_
  have e5 : (slicePick svs.toArray none (some 3) none).toList = svs.take 3 := by
    rw [show (some (3 : Int)) = some (((3 : Nat) : Nat) : Int) from rfl, slicePick_upto']
  rw [e5] at hD'
  have F₂ := F₁.after hk₂
  have N₂ := News.consNew F₁ (News.keep N₁ fun p hp o e => hk₂ _ _ e) hD hD'
  dsimp only
  refine add_lists_ints (vs := avs) (ws := svs.take 3) F₂ N₂ ⟨_, N₂.get (.tail _ (.head _)), rfl, _, rfl⟩ ⟨_, hD', rfl, _, rfl⟩ hi1 (hi.take 3) (fun h₃ F₃ N₃ hi₃ => ?_) (by rw [sizeLine_eq]; simp; omega)
  have N₃' : News h₀ L h₃ [(h₂.objs.size, lobj (avs ++ svs.take 3) 0)] := fun p hp => N₃ p (by rw [List.mem_singleton.mp hp]; exact .head _)
  refine stU F₃ N₃' fun h₄ F₄ N₄ S₄ => ?_
  exact K h₄ _ _ _ F₄ N₄ hi₃
theorem law_ways {dr : Addr} {dvs : List Value} {Q : Flow → Shared → Prop} (F : Fr h₀ L s.heap m) (N : News h₀ L s.heap [(dr, lobj dvs 0)])
    (K : ∀ h' tk wl, Fr h₀ L h' (up m "ways" (.ref wl)) → News h₀ L h' [(wl, lobj [] 0), (dr, lobj dvs 0)] → wl ≠ dr → wpAny (model prog w) A (execs (lawS 2) (lawE L cd)) Q E { s with heap := h', toks := tk }) :
    wpAny (model prog w) A (execs (lawS 1) (lawE L cd)) Q E s := by
  refine wpAny_execs_cons (wpAny_Assign_Name (List_ (args_nil (newLst ?_))))
  have hne : s.heap.objs.size ≠ dr := fun q => absurd (Heap.lt_size (N _ (.head _)).1) (by rw [q]; exact Nat.lt_irrefl _)
  refine stU (F.push (lobj [] 0)) (N.push F (lobj [] 0)) fun h₂ F₂ N₂ S₂ => ?_
  exact K h₂ _ _ F₂ N₂ hne
end
end Mine
end
section
open PySem PySem.W PyProof.Rows PySem.Calls PySem.Spec PySem.NumText
set_option maxRecDepth 100000
set_option maxHeartbeats 4000000
namespace Mine
local macro_rules | `(tactic| walk_at "lk") => `(tactic| (repeat (first | exact up_eq | assumption | refine up_of ?_ (by decide))))
theorem strs_append {vs us : List Value} {ps qs : List (List Nat)} (h : StrsAre vs ps) (k : StrsAre us qs) : StrsAre (vs ++ us) (ps ++ qs) := by
  induction h with
  | nil => exact k
  | cons h ih => exact .cons ih
section
variable {prog : Program} {w : World} {A₀ : Around} {E : Value → Shared → Prop} {s : Shared} {mg mb : Str → Option Value} {h₀ : Heap} {L : Addr} {cd : Value} {m : Str → Option Value}
theorem law_loop {dr wl : Addr} {dvs : List Value} {xs : List Int} {Q : Flow → Shared → Prop} (W : Wd mg mb h₀) (V : Wl mg h₀) (B : Below A₀ h₀ [] h₀) (hroom : A₀.depth + 3 < recursionLimit) (hu : A₀.units + 300 < cLine) (hh : A₀.handled = none)
    (F : Fr h₀ L s.heap m) (N : News h₀ L s.heap [(wl, lobj [] 0), (dr, lobj dvs 0)]) (hmd : m "drawn" = some (.ref dr)) (hmw : m "ways" = some (.ref wl)) (hne : wl ≠ dr) (hi : IntsAre dvs xs) (hlen : xs.length ≤ 20) (hab : AllBare s.gens)
    (K : ∀ h' tk gg m' wvs kw, Fr h₀ L h' m' → News h₀ L h' [(wl, lobj wvs kw), (dr, lobj dvs 0)] → m' "drawn" = some (.ref dr) → m' "ways" = some (.ref wl) → StrsAre wvs (xs.map wayX) → AllBare gg → wpAny (model prog w) (A₀.deeper (lawE L cd)) (execs (lawS 3) (lawE L cd)) Q E { s with heap := h', toks := tk, gens := gg }) :
    wpAny (model prog w) (A₀.deeper (lawE L cd)) (execs (lawS 2) (lawE L cd)) Q E s := by
  have hh' : (A₀.deeper (lawE L cd)).handled = none := hh
  have hd0 : (A₀.deeper (lawE L cd)).depth < recursionLimit := by show A₀.depth + 1 < recursionLimit; omega
  have hd1 : (A₀.deeper (lawE L cd)).depth + 1 < recursionLimit := by show A₀.depth + 1 + 1 < recursionLimit; omega
  have hu1 : (A₀.deeper (lawE L cd)).units + 10 < cLine := by rw [Around.deeper_units]; omega
  refine wpAny_execs_cons (wpAny_For (ld (v := .ref dr) F hmd ?_))
  refine for_listN (env := lawE L cd) (vs := dvs) (kl := 0) hh' (fun i m nx g => ∃ wvs kw, nx = [(wl, lobj wvs kw), (dr, lobj dvs 0)] ∧ m "drawn" = some (.ref dr) ∧ m "ways" = some (.ref wl) ∧ StrsAre wvs ((xs.take i).map wayX) ∧ AllBare g) ?_ ?_ F N ⟨[], 0, rfl, hmd, hmw, .nil, hab⟩ ?_ ?_
  · rintro i m nx g ⟨wvs, kw, rfl, _⟩
    exact .tail _ (.head _)
  · rintro i m nx g ⟨wvs, kw, rfl, _⟩ p hp
    rcases List.mem_cons.mp hp with rfl | hp
    · exact ⟨_, _, rfl⟩
    · rw [List.mem_singleton.mp hp]; exact ⟨_, _, rfl⟩
  · rintro I it i v m₁ nx h tk g hv ⟨wvs, kw, rfl, kmd, kmw, hws, hg⟩ Fi Ni ⟨dd, hdd⟩ E'
    obtain ⟨x, t, rfl, hx⟩ := IntsAre.item hi hv
    have hix : i < xs.length := (List.getElem?_eq_some_iff.mp hx).1
    have hst : (xs.take (i + 1)).map wayX = (xs.take i).map wayX ++ [wayX x] := by rw [List.take_add_one, hx]; simp
    have hwl : wvs.length ≤ 100 := by rw [hws.len, List.length_map, List.length_take]; omega
    have kx : up m₁ "x" (.int x t) "x" = some (.int x t) := up_eq
    have kmd' : up m₁ "x" (.int x t) "drawn" = some (.ref dr) := up_of kmd
    have kmw' : up m₁ "x" (.int x t) "ways" = some (.ref wl) := up_of kmw
    generalize up m₁ "x" (.int x t) = mi at Fi kx kmd' kmw'
    have hrow := rowX_mem x
    have hrl := rowX_len x
    have hIw : I ≠ wl := fun q => by
      have h1 := (Ni _ (.head _)).1
      have h2 := (Ni _ (.tail _ (.head _))).1
      dsimp only at h1 h2
      rw [q, h2] at h1
      cases h1
      cases hdd
    show wpAny _ _ (execs (lawB 0) (lawE L cd)) _ _ _
    refine lb_row W V hd0 Fi Ni kx fun h₁ t₁ rd rvs n₁ F₁ N₁ i₁ => ?_
    refine lb_text W hh' F₁ N₁ (up_of kx) up_eq (.head _) i₁ hrow (by omega) fun h₂ t₂ tt F₂ N₂ => ?_
    have hcut := ns_cut (sepX_ok x) hrow
    have hout := ns_out (sepX_ok x) hrow
    have hln := ns_len (c := sepX x) hrow (by omega)
    generalize sepC (sepX x) ((rowX x).map numT) = ps at hcut hout hln F₂
    refine lb_read W hd0 hh' F₂ N₂ up_eq hcut (by omega) fun h₃ t₃ re us n₃ F₃ N₃ hre i₃ => ?_
    rw [hout] at i₃
    refine lb_check W hu1 hh' F₃ N₃ (by walk_at "lk") (.tail _ (.head _)) i₁ up_eq (.head _) i₃ (by omega) fun h₄ t₄ F₄ N₄ => ?_
    refine lb_led (wl := wl) (kw := kw) (wvs := wvs) W V hd1 hh' F₄ N₄ (by walk_at "lk") (.tail _ (.tail _ (.tail _ (.head _)))) hwl up_eq (.head _) i₃ hg fun h₅ t₅ tw gg F₅ N₅ hgg => ?_
    have hrew : re ≠ wl := fun q => hre (wl, lobj wvs kw) (.tail _ (.tail _ (.head _))) q.symm
    have N₅' : News h₀ L h₅ ((wl, lobj (wvs ++ [.str ⟨(wayX x).toArray⟩ tw]) (kw + 1)) :: (re, lobj us n₃) :: (I, it) :: (dr, lobj dvs 0) :: []) := fun p hp => by
      refine N₅ p ?_
      rcases List.mem_cons.mp hp with rfl | hp
      · exact .head _
      · refine .tail _ (List.mem_filter.mpr ?_)
        rcases List.mem_cons.mp hp with rfl | hp
        · exact ⟨.head _, by simpa using hrew⟩
        · rcases List.mem_cons.mp hp with rfl | hp
          · exact ⟨.tail _ (.tail _ (.head _)), by simpa using hIw⟩
          · rw [List.mem_singleton.mp hp]
            exact ⟨.tail _ (.tail _ (.tail _ (.tail _ (.head _)))), by simpa using Ne.symm hne⟩
    refine lb_same W V hd1 hh' F₅ N₅' (by walk_at "lk") (by walk_at "lk") (.head _) fun h₆ t₆ F₆ N₆ => ?_
    refine lb_ahead W hd0 hh' F₆ N₆ (up_of up_eq) hcut hout (by omega) fun h₇ t₇ ra vs n₇ F₇ N₇ i₇ => ?_
    refine lb_aheadOk hu1 F₇ N₇ (up_of up_eq) (.tail _ (.tail _ (.head _))) i₃ up_eq (.head _) i₇ (by omega) fun h₈ t₈ F₈ N₈ => ?_
    refine lb_walk W B hroom (by omega) hh F₈ N₈ up_eq (.head _) i₇ (by omega) hgg fun h₉ m₉ t₉ g₉ F₉ sm₉ N₉ hg₉ => ?_
    refine ⟨h₉, t₉, g₉, m₉, [(wl, lobj (wvs ++ [.str ⟨(wayX x).toArray⟩ tw]) (kw + 1)), (dr, lobj dvs 0)], rfl, F₉, fun p hp => ?_, ⟨wvs ++ [.str ⟨(wayX x).toArray⟩ tw], kw + 1, rfl, sm₉.at (by walk_at "lk"), sm₉.at (by walk_at "lk"), ?_, hg₉⟩⟩
    rotate_left
    · rw [hst]; exact strs_append hws (.cons .nil)
    · rcases List.mem_cons.mp hp with rfl | hp
      · exact N₉ _ (.tail _ (.tail _ (.tail _ (.head _))))
      · rcases List.mem_cons.mp hp with rfl | hp
        · exact N₉ _ (.tail _ (.head _))
        · rw [List.mem_singleton.mp hp]; exact N₉ _ (.tail _ (.tail _ (.tail _ (.tail _ (.head _)))))
  · rintro m₁ nx h tk g ⟨wvs, kw, rfl, kmd, kmw, hws, hg⟩ Fi Ni
    have e : xs.take dvs.length = xs := by rw [hi.length, List.take_length]
    rw [e] at hws
    exact K h tk g m₁ wvs kw Fi Ni kmd kmw hws hg
end
end Mine
end
section
open PySem PySem.W PyProof.Rows PySem.Calls PySem.Spec PySem.NumText
set_option maxRecDepth 100000
set_option maxHeartbeats 4000000
namespace Mine
local macro_rules | `(tactic| walk_at "lk") => `(tactic| (repeat (first | exact up_eq | assumption | refine up_of ?_ (by decide))))
def loopN : List Str := ["one", "x", "two", "y", "answer"]
def numX (x : Int) : List Int := numI (szs x) (endI x)
section
variable {prog : Program} {w : World} {A : Around} {E : Value → Shared → Prop} {s : Shared} {mg mb : Str → Option Value} {h₀ : Heap} {L : Addr} {cd : Value} {m : Str → Option Value} {nx : List (Addr × Obj)}
theorem law_pairs {wl dr : Addr} {wvs dvs : List Value} {kw kd : Nat} {xs : List Int} {Q : Flow → Shared → Prop} (W : Wd mg mb h₀) (V : Wl mg h₀) (hroom : A.depth + 1 < recursionLimit) (hh : A.handled = none) (F : Fr h₀ L s.heap m) (N : News h₀ L s.heap nx)
    (hm1 : m "ways" = some (.ref wl)) (hw : (wl, lobj wvs kw) ∈ nx) (hm2 : m "drawn" = some (.ref dr)) (hd : (dr, lobj dvs kd) ∈ nx) (hi : IntsAre dvs xs) (hS : StrsAre wvs (xs.map wayX))
    (K : ∀ h' tk m', Fr h₀ L h' m' → wpAny (model prog w) A (execs (lawS 4) (lawE L cd)) Q E { s with heap := h', toks := tk }) :
    wpAny (model prog w) A (execs (lawS 3) (lawE L cd)) Q E s := by
  have hwL : wl ≠ L := (N _ hw).2.1
  have hdL : dr ≠ L := (N _ hd).2.1
  have lists : ∀ {h : Heap}, News h₀ L h nx → h.IsList wl wvs.toArray ∧ h.IsList dr dvs.toArray := fun Nh => ⟨⟨_, Nh.get hw, rfl, _, rfl⟩, ⟨_, Nh.get hd, rfl, _, rfl⟩⟩
  have W₁ := W.keeps F.keep
  obtain ⟨fo, hfo, hfon⟩ := V.ord
  obtain ⟨fn, hfn, hfnn⟩ := V.num
  obtain ⟨fs, hfs, hfsn⟩ := V.siz
  obtain ⟨fd, hfd, hfdn⟩ := V.sid
  have both : ∀ {i : Nat} {va vb : Value}, wvs.toArray[i]? = some va → dvs.toArray[i]? = some vb → ∃ x t u, va = .str ⟨(wayX x).toArray⟩ t ∧ vb = .int x u := fun {i va vb} h1 h2 => by
    obtain ⟨q, t, hq, rfl⟩ := hS.get (by simpa using h1)
    obtain ⟨x, u, rfl, hx⟩ := IntsAre.item hi (by simpa using h2)
    rw [List.getElem?_map, hx] at hq
    cases hq
    exact ⟨x, t, u, rfl, rfl⟩
  refine wpAny_execs_cons (wpAny_For (Call_ (ldB W₁ boot_zip (cwT (args_cons (ld (v := .ref wl) F hm1 (args_cons (ld (v := .ref dr) F hm2 (args_nil ?_)))))))))
  refine for_zip (env := lawE L cd) hh (lists N).1 (lists N).2 (fun _ m' => SameOff loopN m m') hwL hdL F N (fun _ _ => rfl) ?_ ?_
  · intro i va vb m₁ h tk hva hvb hJ Fi Ni E'
    obtain ⟨x, t1, u1, rfl, rfl⟩ := both hva hvb
    have W₂ := W.keeps Fi.keep
    have hJ' : SameOff loopN m (up (up m₁ "one" (.str ⟨(wayX x).toArray⟩ t1)) "x" (.int x u1)) := hJ.up.up
    have hone : up (up m₁ "one" (.str ⟨(wayX x).toArray⟩ t1)) "x" (.int x u1) "one" = some (.str ⟨(wayX x).toArray⟩ t1) := by walk_at "lk"
    have hxx : up (up m₁ "one" (.str ⟨(wayX x).toArray⟩ t1)) "x" (.int x u1) "x" = some (.int x u1) := by walk_at "lk"
    generalize up (up m₁ "one" (.str ⟨(wayX x).toArray⟩ t1)) "x" (.int x u1) = mi at Fi hJ' hone hxx
    refine wpAny_execs_cons (wpAny_For (Call_ (ldB W₂ boot_zip (cwT (args_cons (ld (v := .ref wl) Fi (hJ'.at hm1) (args_cons (ld (v := .ref dr) Fi (hJ'.at hm2) (args_nil ?_)))))))))
    refine for_zip (s := { s with heap := h, toks := tk }) (env := lawE L cd) hh (lists Ni).1 (lists Ni).2 (fun _ m' => SameOff ["two", "y", "answer"] mi m') hwL hdL Fi Ni (fun _ _ => rfl) ?_ ?_
    · intro j vc vd m₂ h₂ tk₂ hvc hvd hJ₂ F₂ N₂ E₂
      obtain ⟨y, t2, u2, rfl, rfl⟩ := both hvc hvd
      have W₃ := W.keeps F₂.keep
      have hJ₂' : SameOff ["two", "y", "answer"] mi (up (up m₂ "two" (.str ⟨(wayX y).toArray⟩ t2)) "y" (.int y u2)) := hJ₂.up.up
      have htwo : up (up m₂ "two" (.str ⟨(wayX y).toArray⟩ t2)) "y" (.int y u2) "two" = some (.str ⟨(wayX y).toArray⟩ t2) := by walk_at "lk"
      have hyy : up (up m₂ "two" (.str ⟨(wayX y).toArray⟩ t2)) "y" (.int y u2) "y" = some (.int y u2) := by walk_at "lk"
      generalize up (up m₂ "two" (.str ⟨(wayX y).toArray⟩ t2)) "y" (.int y u2) = mj at F₂ hJ₂' htwo hyy
      refine wpAny_execs_cons (wpAny_Assign_Name (Call_ (ldG W₃ W.coll (cwF W₃.fcoll (args_cons (ld (v := .str ⟨(wayX x).toArray⟩ t1) F₂ (hJ₂'.at hone) (args_cons (ld (v := .str ⟨(wayX y).toArray⟩ t2) F₂ htwo (args_nil ⟨fun _ _ e => e, coll_strs W₃.fcoll (by omega) W₃.lim ?_⟩)))))))))
      intro h₄ tk₄ t₄ hk₄
      dsimp only [wants] at hk₄ ⊢
      have F₄ := F₂.after hk₄
      have N₄ := News.keep N₂ fun p hp o e => hk₄ _ _ e
      have eord : b2i (decide ((⟨(wayX y).toArray⟩ : Str).cps.toList < (⟨(wayX x).toArray⟩ : Str).cps.toList)) - b2i (decide ((⟨(wayX x).toArray⟩ : Str).cps.toList < (⟨(wayX y).toArray⟩ : Str).cps.toList)) = orderI (numX x) (numX y) := order_all x y
      rw [eord]
      refine stU F₄ N₄ fun h₅ F₅ N₅ S₅ => ?_
      dsimp only at S₅ ⊢
      have W₅ := W.keeps F₅.keep
      have hans : up mj "answer" (.int (orderI (numX x) (numX y)) t₄) "answer" = some (.int (orderI (numX x) (numX y)) t₄) := up_eq
      have h5x : up mj "answer" (.int (orderI (numX x) (numX y)) t₄) "x" = some (.int x u1) := up_of (hJ₂'.at hxx)
      have h5y : up mj "answer" (.int (orderI (numX x) (numX y)) t₄) "y" = some (.int y u2) := up_of hyy
      have hJ₅ : SameOff ["two", "y", "answer"] mi (up mj "answer" (.int (orderI (numX x) (numX y)) t₄)) := hJ₂'.up
      generalize up mj "answer" (.int (orderI (numX x) (numX y)) t₄) = m₅ at F₅ hans h5x h5y hJ₅
      refine wpAny_execs_cons (wpAny_If (wpAny_isTrue_BoolOp (wpAny_allTrue_Or_cons (wpAny_isTrue_Compare1 (Call_ (ldB W₅ boot_type (cwT (args_cons (ld (v := .int (orderI (numX x) (numX y)) t₄) F₅ hans (args_nil (call_type_of (Tx := "int") (typeIs_int _ _ _) (by decide) (ldB W₅ boot_int (isnot_type_same (wpAny_truthy_bool ?_ ))))))))))))))
      rw [if_neg (by decide)]
      refine wpAny_allTrue_Or_cons (wpAny_isTrue_Compare1 (ld (v := .int (orderI (numX x) (numX y)) t₄) F₅ hans (Call_ (ldG W₅ hfo (cwF (hfon.keeps F₅.keep) (args_cons (Call_ (ldG W₅ hfn (cwF (hfnn.keeps F₅.keep) (args_cons (ld (v := .int x u1) F₅ h5x (args_nil ⟨fun _ _ e => e, number_spec (hfnn.keeps F₅.keep) (hfsn.keeps F₅.keep) hfs W₅ hroom hh ?_⟩ ))))))))))))
      intro r1 us1 k1 h₆ tk₆ hr1 hr1' hi1 hk₆
      dsimp only [wants] at hr1 hr1' hk₆ ⊢
      have F₆ := F₅.after hk₆
      have W₆ := W.keeps F₆.keep
      refine args_cons (Call_ (ldG W₆ hfn (cwF (hfnn.keeps F₆.keep) (args_cons (ld (v := .int y u2) F₆ h5y (args_nil ⟨fun _ _ e => e, number_spec (hfnn.keeps F₆.keep) (hfsn.keeps F₆.keep) hfs W₆ hroom hh ?_⟩ ))))))
      intro r2 us2 k2 h₇ tk₇ hr2 hr2' hi2 hk₇
      dsimp only [wants] at hr2 hr2' hk₇ ⊢
      have F₇ := F₆.after hk₇
      have W₇ := W.keeps F₇.keep
      obtain ⟨b1, l1⟩ := num_ok x
      obtain ⟨b2, l2⟩ := num_ok y
      refine args_nil ⟨Keep.trans hk₆ hk₇, order_spec (one := numX x) (two := numX y) (hfon.keeps F₇.keep) (hfdn.keeps F₇.keep) hfd W₇ hroom hh (hk₇ _ _ hr1') hi1 l1 b1 hr2' hi2 l2 b2 ?_⟩
      intro h₈ tk₈ t₈ hk₈
      dsimp only [wants] at hk₈ ⊢
      refine ne_int (wpAny_truthy_bool ?_)
      rw [if_neg (by simp)]
      refine wpAny_allTrue_Or_nil ?_
      rw [if_neg (by decide)]
      refine wpAny_execs_nil (wpAny_execs_nil ?_)
      exact ⟨h₈, _, m₅, rfl, F₇.after hk₈, hJ₅, fun b o hb e => hk₈ _ _ (hk₇ _ _ (hk₆ _ _ (S₅.extBut b o hb (hk₄ b o e))))⟩
    · intro m₂ h₂ tk₂ hJ₂ F₂ N₂ hK₂
      dsimp only
      refine wpAny_execs_nil ?_
      exact ⟨h₂, _, m₂, rfl, F₂, fun x hx => (hJ₂ x (fun q => hx (by revert q; simp only [loopN, List.mem_cons, List.not_mem_nil, or_false]; intro q; rcases q with q | q | q <;> simp [q]))).trans (hJ' x hx), hK₂⟩
  · intro m₂ h₂ tk₂ hJ₂ F₂ N₂ _
    exact K h₂ tk₂ m₂ F₂
end
theorem drawnL_len (script : List Int) : (drawnL script).length ≤ 8 := by
  unfold drawnL
  rw [List.length_append, List.length_take]
  simp only [List.length_cons, List.length_nil]
  omega
section
variable {prog : Program} {w : World} {A₀ : Around} {E : Value → Shared → Prop} {s : Shared} {mg mb : Str → Option Value} {h₀ : Heap} {L : Addr} {cd : Value} {m : Str → Option Value}
theorem law_body {sc : Addr} {svs : List Value} {script : List Int} {Q : Flow → Shared → Prop} (W : Wd mg mb h₀) (V : Wl mg h₀) (B : Below A₀ h₀ [] h₀) (hroom : A₀.depth + 3 < recursionLimit) (hu : A₀.units + 300 < cLine) (hh : A₀.handled = none)
    (F : Fr h₀ L s.heap m) (hsc : m "script" = some (.ref sc)) (hl : h₀.IsList sc svs.toArray) (hi : IntsAre svs script) (hlen : script.length ≤ 63) (hab : AllBare s.gens)
    (K : ∀ h' m' tk gg, Fr h₀ L h' m' → AllBare gg → Q (.ret (.bool true)) { s with heap := h', toks := tk, gens := gg }) :
    wpAny (model prog w) (A₀.deeper (lawE L cd)) (execs (lawS 0) (lawE L cd)) Q E s := by
  have hh' : (A₀.deeper (lawE L cd)).handled = none := hh
  have hd1 : (A₀.deeper (lawE L cd)).depth + 1 < recursionLimit := by show A₀.depth + 1 + 1 < recursionLimit; omega
  have xl := drawnL_len script
  refine law_drawn F hsc hl hi hlen fun h₁ t₁ dr dvs F₁ N₁ i₁ => ?_
  generalize drawnL script = xs at xl i₁
  refine law_ways F₁ N₁ fun h₂ t₂ wl F₂ N₂ hne => ?_
  refine law_loop W V B hroom hu hh F₂ N₂ (up_of up_eq) up_eq hne i₁ (by omega) hab fun h₃ t₃ g₃ m₃ wvs kw F₃ N₃ hmd hmw hS hg => ?_
  refine law_pairs W V hd1 hh' F₃ N₃ hmw (.head _) hmd (.tail _ (.head _)) i₁ hS fun h₄ t₄ m₄ F₄ => ?_
  refine wpAny_execs_cons (wpAny_Return_some (wpAny_pure ?_))
  exact K h₄ m₄ _ g₃ F₄ hg
end
end Mine
end
section
open PySem PySem.W PyProof.Rows PySem.Calls PySem.Spec PySem.NumText
open Mine
set_option maxRecDepth 100000
set_option maxHeartbeats 4000000
theorem PySem.Challenge.cw_ph0022_02_holds : PySem.Challenge.rw_ph0022_02.Holds := by
  (w_on; o_law; k_head; (case hw => w_witness2))
  k_fill
  intro w s₀ s₁ mg mb G Y fa o pm cd doc dV kV ho hd hcd hD hmg hg args vals as hpre hlay hrd hwl hlo
  have KX := kIn_of Y
  refine Ground.open G ?_
  intro T B D TE TW
  wrow_args hpre hlay hrd hwl hlo
  have g1 : mg "_strcoll" = some (.ref 38) := ns_some_of KX T.g (by kernel_rfl)
  have g2 : mg "_grouping_intervals" = some (.ref 45) := ns_some_of KX T.g (by kernel_rfl)
  have g3 : mg "_comparable_version" = some (.ref 58) := ns_some_of KX T.g (by kernel_rfl)
  have g4 : mg "_twin_re_1" = some (.ref 50) := ns_some_of KX T.g (by kernel_rfl)
  have g5 : ∃ t, mg "CHAR_MAX" = some (.int 127 t) := const_of T (by kernel_rfl)
  have g6 : ∀ x ∈ bnames, mg x = none := by
    intro x hx
    refine ns_none_of KX T.g ?_
    simp only [bnames, List.mem_cons, List.not_mem_nil, or_false] at hx
    rcases hx with rfl | rfl | rfl | rfl | rfl | rfl | rfl | rfl | rfl | rfl <;> kernel_rfl
  have g7 : mg "law" = some (.ref 105) := ns_some_of KX T.g (by kernel_rfl)
  have f1 := fn_of T (k := 0) (i := 2) (name := "_strcoll") rfl rfl rfl rfl rfl
  have f2 := fn_of T (k := 1) (i := 4) (name := "_grouping_intervals") rfl rfl rfl rfl rfl
  have f3 := fn_of T (k := 2) (i := 8) (name := "_comparable_version") rfl rfl rfl rfl rfl
  have f4 := fn_of T (k := 3) (i := 10) (name := "_law_sizes") rfl rfl rfl rfl rfl
  have f5 := fn_of T (k := 4) (i := 11) (name := "_law_number") rfl rfl rfl rfl rfl
  have f6 := fn_of T (k := 5) (i := 12) (name := "_law_side") rfl rfl rfl rfl rfl
  have f7 := fn_of T (k := 6) (i := 13) (name := "_law_way") rfl rfl rfl rfl rfl
  have f9 := fn_of T (k := 7) (i := 14) (name := "_law_led") rfl rfl rfl rfl rfl
  have fA := fn_of T (k := 8) (i := 15) (name := "_law_order") rfl rfl rfl rfl rfl
  have fB := fn_of T (k := 9) (i := 16) (name := "law") rfl rfl rfl rfl rfl
  have pt : PatAt s₁.heap 50 := ⟨⟨_, _, _, _, _, 0, KX 50 _ (by with_unfolding_all rfl), rfl, rfl, rfl, KX _ _ (by with_unfolding_all rfl), by simp [cdA]⟩⟩
  have WD : Wd mg mb s₁.heap := ⟨T.g, T.b, T.nolimit, T.builtins, g6, g5, g4, pt, g1, fn_at f1 g1, g2, fn_at f2 g2, g3, fn_at f3 g3⟩
  have VL : Wl mg s₁.heap := ⟨f4, f5, f6, f7, f9, fA⟩
  have f8 : fa = 105 := by
    have h : mg "law" = some (.ref fa) := hmg
    rw [g7] at h; cases h; rfl
  subst f8
  have FL := fn_at fB g7
  clear f1 f2 f3 f4 f5 f6 f7 f9 fA fB hd hcd hD hmg D B TE TW Y KX G g1 g2 g3 g4 g5 g6
  rename_i script _ _ _ _ _ _ _ sc svs _ hlist _ _ _ hints _ hcond _
  refine enter_call ?_
  have hlen : script.length ≤ 63 := by omega
  have hunits : callerA.units + 300 < cLine := by decide +kernel
  have hdep : callerA.depth + 3 < recursionLimit := by decide +kernel
  refine call_fn (binds := [("script", .ref sc)]) FL (by omega) WD.lim (fun _ _ _ => rfl) (by rfl) fun cd h₁ F => ?_
  rw [bm1] at F
  refine law_body (cd := cd) (svs := svs) WD VL (below_caller _) hdep hunits rfl F up_eq hlist hints hlen (by show AllBare s₁.gens; rw [hg]; exact fun y hy => by simp at hy) fun h' m' tk gg F' hgg => ?_
  refine ⟨.inl ⟨.bool true, .bool true, [], rfl, fun _ => rfl, .bool true, ?_, unshared_nil⟩, .of_keep F'.keep, rfl, hgg⟩
  wrow_post
end
